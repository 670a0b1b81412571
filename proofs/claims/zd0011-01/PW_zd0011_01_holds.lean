import PyProof.Rows.All
import Wide.All
import OpenK.AllK
import Wide.FinOn
import Lean
import PySem.Challenge.RW_zd0011_01
set_option Elab.async false
section
open PySem PySem.W PyProof.Rows
set_option Elab.async false
set_option maxRecDepth 100000
set_option maxHeartbeats 8000000
namespace Mine
noncomputable def view : Program := { PySem.Challenge.pw_zd0011_01 with main := { PySem.Challenge.pw_zd0011_01.main with body := ([0, 1, 3, 4, 6, 7, 9, 10, 11, 12, 13, 15, 16, 17] : List Nat).filterMap fun i => PySem.Challenge.pw_zd0011_01.main.body[i]? } }
noncomputable abbrev free : List Str := [Str.ofString "Flags", Str.ofString "COMPILER_FLAG_NAMES", Str.ofString "_twin_re_1", Str.ofString "_Accumulator"]
noncomputable abbrev Xt0 : Shared → Bool := fun s => xlAt view [] s && recOk (RowW.records (OpenRow.toRowW (OpenLaw.row PySem.Challenge.rw_zd0011_01))) s
theorem law_said : PySem.Challenge.rw_zd0011_01.wellSaid = true := by
  rw [PySem.W.Fast.te9446332074065402090]
  kernel_rfl
local macro_rules
  | `(tactic| o_law) => `(tactic| refine holds_law law_said fun said => ?_)
local macro_rules
  | `(tactic| o_head ($_:ident $K:term $as:term $e:term)) => do
      let hw := Lean.mkIdent `hw
      `(tactic| refine (fun (hp : PySem.Challenge.rw_zd0011_01.row.toRowW.promised) (hx : LeftO PySem.Challenge.rw_zd0011_01.row.prog view free Xt0 (Hook.obs (kmHook $K $as $e [182, 189])) (Hook.val (kmHook $K $as $e [182, 189])) 3212 ∧ _) => holds_open (q := view) (loose := free) (Xt := Xt0) (XP := XL view []) (Yf := Hook.obs (kmHook $K $as $e [182, 189])) (Ya := Hook.val (kmHook $K $as $e [182, 189])) (YP := Hook.says (kmHook $K $as $e [182, 189])) (N := 3212) hx.1 (Hook.of (kmHook $K $as $e [182, 189])) (Hook.keeps (kmHook $K $as $e [182, 189])) (fun s e => xl_of s (Bool.and_eq_true_iff.mp e).1) XL.keeps (by rfl) (by rfl) (by rfl) (fun s e => recFacts_of (Bool.and_eq_true_iff.mp e).2) (by rfl) (by assumption) (by decide +kernel) ⟨rfl, rfl, rfl, rfl, rfl, by decide +kernel⟩ hp hx.2) ?$hw ?_)
open_top hd for PySem.Challenge.rw_zd0011_01
end Mine
end
section
open PySem PySem.W PyProof.Rows
set_option Elab.async false
set_option maxRecDepth 100000
set_option maxHeartbeats 8000000
namespace Mine
noncomputable abbrev as0 : List Addr := [2, 3, 32, 34, 35, 37, 38, 40, 41, 42, 43, 44, 46, 47, 49, 50, 51, 52, 54, 55, 57, 58, 62, 63, 71, 73, 74, 76, 77, 78, 80, 81, 83, 84, 85, 87, 88, 90, 91, 92, 94, 95, 97, 98, 99, 101, 102, 104, 105, 106, 108, 109, 111, 112, 113, 115, 116, 118, 119, 120, 122, 123, 125, 126, 127, 129, 130, 132, 133, 134, 135, 136, 137, 138, 141, 144, 149, 150, 151, 153, 154, 156, 157, 158, 160, 161, 163, 164, 165, 166, 168, 169, 171, 172, 173, 174, 176, 177, 179, 180, 181, 183, 184, 186, 187, 188, 190, 191, 193, 194, 195, 196, 198, 199, 201, 202, 203, 205, 206, 208, 209, 210, 211, 213, 214, 216, 217, 218, 219, 220, 221, 222, 225, 228, 229, 230, 232, 233, 235, 236, 237, 240, 241]
/-- one side of the top's run: by the kernel at once, on the library's quick twins -/
theorem left_f : ∀ w : World, (openEnds treeTable PySem.Challenge.rw_zd0011_01.row.prog (w.withFollow "special-get-raises" false) 3212).map (fun s => (openSeen view free (importedModules PySem.Challenge.rw_zd0011_01.row.prog.main.body) Xt0 true s, (as0.map s.heap.get?, ([182, 189] : List Addr).map s.heap.get?))) = some (openGood view free, ((hd.heap_1 (w.withFollow "special-get-raises" false).params).map fun p => some p.2, ([182, 189] : List Addr).map fun _ => some (tabObj #[]))) := by
  delta openEnds fencedOpening topFrom
  rewrite [PySem.W.Fast.te10274390034422433532, PySem.W.Fast.te1435165496053646825, PySem.W.Fast.te14289696077712309145, PySem.W.Fast.te14082659384304107361, PySem.W.Fast.te14364793385576792824, PySem.W.Fast.te4187177175401517315]
  exact fun w => by kernel_rfl
end Mine
end
section
open PySem PySem.W PyProof.Rows
set_option Elab.async false
set_option maxRecDepth 100000
set_option maxHeartbeats 8000000
namespace Mine
/-- one side of the top's run: by the kernel at once, on the library's quick twins -/
theorem left_t : ∀ w : World, (openEnds treeTable PySem.Challenge.rw_zd0011_01.row.prog (w.withFollow "special-get-raises" true) 3212).map (fun s => (openSeen view free (importedModules PySem.Challenge.rw_zd0011_01.row.prog.main.body) Xt0 true s, (as0.map s.heap.get?, ([182, 189] : List Addr).map s.heap.get?))) = some (openGood view free, ((hd.heap_1 (w.withFollow "special-get-raises" true).params).map fun p => some p.2, ([182, 189] : List Addr).map fun _ => some (tabObj #[]))) := by
  delta openEnds fencedOpening topFrom
  rewrite [PySem.W.Fast.te10274390034422433532, PySem.W.Fast.te1435165496053646825, PySem.W.Fast.te14289696077712309145, PySem.W.Fast.te14082659384304107361, PySem.W.Fast.te14364793385576792824, PySem.W.Fast.te4187177175401517315]
  exact fun w => by kernel_rfl

theorem left : LeftO PySem.Challenge.rw_zd0011_01.row.prog view free Xt0 (Hook.obs (kmHook hd.heap_1 as0 (fun _ => by kernel_rfl) [182, 189])) (Hook.val (kmHook hd.heap_1 as0 (fun _ => by kernel_rfl) [182, 189])) 3212 :=
  byRow2 "special-get-raises" (P := fun w => (openEnds treeTable PySem.Challenge.rw_zd0011_01.row.prog w 3212).map (fun s => (openSeen view free (importedModules PySem.Challenge.rw_zd0011_01.row.prog.main.body) Xt0 true s, (as0.map s.heap.get?, ([182, 189] : List Addr).map s.heap.get?))) = some (openGood view free, ((hd.heap_1 w.params).map fun p => some p.2, ([182, 189] : List Addr).map fun _ => some (tabObj #[])))) left_f left_t
end Mine
end
section
open PySem PySem.W PyProof.Rows PySem.Calls PySem.Spec
set_option Elab.async false
set_option maxRecDepth 100000
set_option maxHeartbeats 4000000
namespace Mine

noncomputable abbrev PP : Program := PySem.Challenge.rw_zd0011_01.row.prog
noncomputable abbrev LL : List Str := looseW Mine.view [Str.ofString "Flags", Str.ofString "COMPILER_FLAG_NAMES", Str.ofString "_twin_re_1", Str.ofString "_Accumulator"]

/-- what is known of the world's own part -/
structure Wd (w : World) (mg mb : Str → Option Value) (h₀ : Heap) : Prop where
  X : (hd.heap_1 w.params).In h₀
  T : TopRead Mine.view LL mg mb h₀
  B : ∃ bm ob, BMod h₀ mainGlobals mg bm ob

theorem Wd.keeps {w : World} {mg mb : Str → Option Value} {h h' : Heap} (x : Wd w mg mb h) (k : ∀ b o, h.get? b = some o → h'.get? b = some o) : Wd w mg mb h' := ⟨x.X.keeps k, x.T.keeps k, let ⟨bm, ob, y⟩ := x.B; ⟨bm, ob, y.keeps k⟩⟩

/-- the frame at hand and the ledger -/
structure Lg (h₀ : Heap) (L : Addr) (m : Str → Option Value) (h : Heap) (news : List (Addr × Obj)) : Prop where
  fr : Fr h₀ L h m
  nw : News h₀ L h news
  nd : (news.map (·.1)).Nodup

section
variable {h₀ h : Heap} {L : Addr} {m : Str → Option Value} {news : List (Addr × Obj)}
theorem Lg.lt (G : Lg h₀ L m h news) {p : Addr × Obj} (hp : p ∈ news) : p.1 < h.objs.size := Heap.lt_size (G.nw p hp).1
theorem Lg.get (G : Lg h₀ L m h news) {i : Nat} {a : Addr} {o : Obj} (hi : news[i]? = some (a, o)) : h.get? a = some o := (G.nw _ (List.mem_of_getElem? hi)).1
theorem Lg.alloc (G : Lg h₀ L m h news) (o : Obj) (hf : o.isFreed = false := by rfl) : Lg h₀ L m (h.push o) ((h.objs.size, o) :: news) :=
  ⟨G.fr.push o, G.nw.push G.fr o hf, by
    rw [List.map_cons, List.nodup_cons]
    refine ⟨fun hm => ?_, G.nd⟩
    obtain ⟨p, hp, e⟩ := List.mem_map.mp hm
    have := G.lt hp
    rw [e] at this
    exact Nat.lt_irrefl _ this⟩
theorem Lg.drop (G : Lg h₀ L m h news) {news' : List (Addr × Obj)} (hs : news'.Sublist news) : Lg h₀ L m h news' :=
  ⟨G.fr, fun p hp => G.nw p (hs.subset hp), (hs.map _).nodup G.nd⟩
theorem Lg.local (G : Lg h₀ L m h news) {h' : Heap} {m' : Str → Option Value} (hn : h'.Ns L m') (hs : Heap.SameBut L h h') : Lg h₀ L m' h' news := ⟨G.fr.set hn hs, G.nw.set hs, G.nd⟩

theorem set_map_fst {news : List (Addr × Obj)} {i : Nat} {a : Addr} {o o' : Obj} (hi : news[i]? = some (a, o)) : (news.set i (a, o')).map (·.1) = news.map (·.1) := by
  rw [List.map_set]
  obtain ⟨hl, he⟩ := List.getElem?_eq_some_iff.mp hi
  apply List.ext_getElem?
  intro j
  rw [List.getElem?_set]
  split
  · rename_i e
    subst e
    rw [if_pos (by simpa using hl), List.getElem?_map, hi]
    rfl
  · rfl
theorem Lg.ne_L (G : Lg h₀ L m h news) {p : Addr × Obj} (hp : p ∈ news) : p.1 ≠ L := (G.nw p hp).2.1
/-- an object of the ledger is written -/
theorem Lg.write (G : Lg h₀ L m h news) {i : Nat} {a : Addr} {o o' : Obj} {h' : Heap} (hi : news[i]? = some (a, o)) (hs : Heap.SameBut a h h') (ho : h'.get? a = some o') : Lg h₀ L m h' (news.set i (a, o')) := by
  have hm := List.mem_of_getElem? hi
  have hold : ∀ b ob, h₀.get? b = some ob → b ≠ a := fun b ob e q => by
    have := (G.nw _ hm).2.2
    simp only at this
    rw [← q, e] at this; cases this
  refine ⟨⟨G.fr.ns.sameBut hs (fun q => (G.nw _ hm).2.1 q.symm), fun b ob e => (hs.2 b (hold b ob e)).trans (G.fr.keep b ob e), G.fr.above⟩, ?_, ?_⟩
  · intro p hp
    obtain ⟨j, hj⟩ := List.mem_iff_getElem?.mp hp
    rw [List.getElem?_set] at hj
    split at hj
    · rename_i e
      split at hj
      · cases hj
        exact ⟨ho, (G.nw _ hm).2.1, (G.nw _ hm).2.2⟩
      · cases hj
    · rename_i e
      have hp' := List.mem_of_getElem? hj
      refine ⟨?_, (G.nw _ hp').2⟩
      have hne : p.1 ≠ a := fun q => e (by
        have h1 : (news.map (·.1))[j]? = some a := by rw [List.getElem?_map, hj]; exact congrArg some q
        have h2 : (news.map (·.1))[i]? = some a := by rw [List.getElem?_map, hi]; rfl
        obtain ⟨l1, e1⟩ := List.getElem?_eq_some_iff.mp h1
        obtain ⟨l2, e2⟩ := List.getElem?_eq_some_iff.mp h2
        exact (List.getElem_inj G.nd).mp (e2.trans e1.symm))
      exact (hs.2 p.1 hne).trans (G.nw _ hp').1
  · rw [set_map_fst hi]; exact G.nd
theorem Lg.update (G : Lg h₀ L m h news) {i : Nat} {a : Addr} {o : Obj} {f : Obj → Obj} (hi : news[i]? = some (a, o)) (hf : (f o).isFreed = false) : Lg h₀ L m (h.update a f) (news.set i (a, f o)) :=
  G.write hi (Heap.SameBut.update ..) (by first | exact Heap.get?_update_self f (G.get hi) hf | exact Heap.get?_update_self _ (G.get hi) hf)
end
end Mine
end
section
open PySem PySem.W PyProof.Rows PySem.Calls PySem.Spec
set_option Elab.async false
set_option maxRecDepth 100000
set_option maxHeartbeats 4000000
namespace Mine
section
variable {w : World} {mg mb : Str → Option Value} {A : Around} {s : Shared} {h₀ : Heap} {L : Addr} {m : Str → Option Value} {core rest : List (Addr × Obj)}

theorem Lg.hideCore (G : Lg h₀ L m s.heap (core ++ rest)) : ∀ b o, s.heap.get? b = some o → b ∉ core.map (·.1) → (hideAll s.heap (core.map (·.1))).get? b = some o :=
  fun _ _ e n => hideAll_get _ e n

theorem Lg.h0_core (G : Lg h₀ L m s.heap (core ++ rest)) : ∀ b o, h₀.get? b = some o → b ∉ core.map (·.1) := fun b o e q => by
  obtain ⟨p, hp, rfl⟩ := List.mem_map.mp q
  rw [(G.nw p (List.mem_append_left _ hp)).2.2] at e; cases e

/-- what comes back from a callee whose ground hides the core -/
theorem Lg.back (G : Lg h₀ L m s.heap (core ++ rest)) {L' : Addr} {m' : Str → Option Value} {h' : Heap} {news' : List (Addr × Obj)}
    (G' : Lg (hideAll s.heap (core.map (·.1))) L' m' h' news') : Lg h₀ L m h' (news' ++ rest) := by
  have st : ∀ b o, h₀.get? b = some o → (hideAll s.heap (core.map (·.1))).get? b = some o := fun b o e => hideAll_get _ (G.fr.keep b o e) (G.h0_core b o e)
  obtain ⟨oL, es, ep, hL, hLd, hLk, hLf⟩ := G.fr.ns
  have nL : L ∉ core.map (·.1) := fun q => by
    obtain ⟨p, hp, e⟩ := List.mem_map.mp q
    exact (G.nw p (List.mem_append_left _ hp)).2.1 e
  have hLg := hideAll_get (core.map (·.1)) hL nL
  have nd := G.nd
  rw [List.map_append, List.nodup_append] at nd
  have rk : ∀ p ∈ rest, (hideAll s.heap (core.map (·.1))).get? p.1 = some p.2 := fun p hp =>
    hideAll_get _ (G.nw p (List.mem_append_right _ hp)).1 fun q => nd.2.2 _ q _ (List.mem_map_of_mem hp) rfl
  refine ⟨⟨⟨oL, es, ep, G'.fr.keep L oL hLg, hLd, hLk, hLf⟩, fun b o e => G'.fr.keep b o (st b o e), G.fr.above⟩, fun p hp => ?_, ?_⟩
  · rcases List.mem_append.mp hp with hp | hp
    · refine ⟨(G'.nw p hp).1, fun q => ?_, ?_⟩
      · have := (G'.nw p hp).2.2; rw [q, hLg] at this; cases this
      · cases q : h₀.get? p.1 with
        | none => rfl
        | some o => have := (G'.nw p hp).2.2; rw [st _ _ q] at this; cases this
    · exact ⟨G'.fr.keep _ _ (rk p hp), (G.nw p (List.mem_append_right _ hp)).2⟩
  · rw [List.map_append, List.nodup_append]
    refine ⟨G'.nd, nd.2.1, fun a ha b hb e => ?_⟩
    obtain ⟨p, hp, rfl⟩ := List.mem_map.mp ha
    obtain ⟨q, hq, rfl⟩ := List.mem_map.mp hb
    have := (G'.nw p hp).2.2
    rw [e, rk q hq] at this; cases this

/-- a call has come back: the core is now another, all else stands -/
structure Bk (s : Shared) (h₀ : Heap) (L : Addr) (m : Str → Option Value) (core rest : List (Addr × Obj)) (s' : Shared) (l' : List (Addr × Obj)) : Prop where
  lg : Lg h₀ L m s'.heap (l' ++ rest)
  kp : ∀ b o, s.heap.get? b = some o → b ∉ core.map (·.1) → s'.heap.get? b = some o
  os : s'.os = s.os
  gn : AllBare s.gens → AllBare s'.gens

theorem code_def {R : Result → Shared → Prop} {f : Addr} {fo : Obj} {name qual : Str} {params : Arguments} {body : List Stmt} {scope : Scope} {cl : List (Str × Addr)} {dV kV doc pm cdv ct : Value} {an : Option Addr} {vals : List Value} {binds : List (Str × Value)}
    (W : Wd w mg mb h₀) (G : Lg h₀ L m s.heap (core ++ rest)) (ho : (hd.heap_1 w.params).lookup f = some fo) (hdt : fo.data = .func (fnX name qual params body scope cl dV kV doc pm an cdv ct)) (hcd : codeIn (hd.heap_1 w.params) cdv qual = true) (hroom : A.depth < recursionLimit)
    (hbind : BindsTo s (fnX name qual params body scope cl dV kV doc pm an cdv ct) ⟨vals, []⟩ binds) (hloc : (binds.all fun x => decide (scope.names.lookup x.1 = some .local)) = true)
    (h : ∀ g L' h₁, Wd w mg mb g → (∀ b o, s.heap.get? b = some o → b ∉ core.map (·.1) → g.get? b = some o) → Lg g L' (fun y => binds.reverse.lookup y) h₁ core →
      (∀ (s' : Shared) (m' : Str → Option Value) (l' : List (Addr × Obj)), Lg g L' m' s'.heap l' → s'.os = s.os → (AllBare s.gens → AllBare s'.gens) → Bk s h₀ L m core rest s' l') →
      wpAny (model PP w) (A.deeper (envX qual scope L' f cdv cl)) (execs body (envX qual scope L' f cdv cl)) (fun fl s' => R (.ok (.ret (match fl with | .ret v => v | _ => .none))) s') (fun _ _ => False)
        { s with heap := h₁, toks := s.toks + binds.length })
    (hcell : ∀ x ∈ scope.names, x.2 ≠ .cell) (hco : scope.isCoroutine = false := by rfl) (hgen : scope.isGenerator = false := by rfl) (hk : scope.kind = .function := by rfl) : codeAny (model PP w) A (.call (.ref f) ⟨vals, []⟩) R s := by
  have st : ∀ b o, h₀.get? b = some o → (hideAll s.heap (core.map (·.1))).get? b = some o := fun b o e => hideAll_get _ (G.fr.keep b o e) (G.h0_core b o e)
  refine codeAny_call_def (fd := fnX name qual params body scope cl dV kV doc pm an cdv ct) (body := body) (binds := binds) hroom (G.fr.keep _ _ (W.X _ _ ho)) hdt (W.T.nolimit.keeps G.fr.keep) (codeRec_of (W.X.keeps G.fr.keep) hcd) rfl hbind hcell (locs hloc) (fun h₁ hns hk₁ => ?_) hco hgen hk
  refine wpAny_mono (h (hideAll s.heap (core.map (·.1))) s.heap.objs.size h₁ (W.keeps st) G.hideCore ⟨⟨hns, fun b o e => hk₁ b o (of_hideAll _ e), Nat.le_of_eq (hideAll_size _ _)⟩, fun p hp => ?_, ?_⟩
    (fun s' m' l' G' ho hg => ⟨G.back G', fun b o e n => G'.fr.keep b o (G.hideCore b o e n), ho, hg⟩)) (fun fl s' hl => hl) fun _ _ y => y.elim
  · have hp' := List.mem_append_left rest hp
    exact ⟨hk₁ _ _ (G.nw p hp').1, Nat.ne_of_lt (Heap.lt_size (G.nw p hp').1), hideAll_none _ (List.mem_map_of_mem hp)⟩
  · have nd := G.nd
    rw [List.map_append, List.nodup_append] at nd
    exact nd.1
theorem call_def {Q E : Value → Shared → Prop} {f : Addr} {fo : Obj} {name qual : Str} {params : Arguments} {body : List Stmt} {scope : Scope} {cl : List (Str × Addr)} {dV kV doc pm cdv ct : Value} {an : Option Addr} {vals : List Value} {binds : List (Str × Value)}
    (W : Wd w mg mb h₀) (G : Lg h₀ L m s.heap (core ++ rest)) (ho : (hd.heap_1 w.params).lookup f = some fo) (hdt : fo.data = .func (fnX name qual params body scope cl dV kV doc pm an cdv ct)) (hcd : codeIn (hd.heap_1 w.params) cdv qual = true) (hroom : A.depth < recursionLimit)
    (hbind : BindsTo s (fnX name qual params body scope cl dV kV doc pm an cdv ct) ⟨vals, []⟩ binds) (hloc : (binds.all fun x => decide (scope.names.lookup x.1 = some .local)) = true)
    (h : ∀ g L' h₁, Wd w mg mb g → (∀ b o, s.heap.get? b = some o → b ∉ core.map (·.1) → g.get? b = some o) → Lg g L' (fun y => binds.reverse.lookup y) h₁ core →
      (∀ (s' : Shared) (m' : Str → Option Value) (l' : List (Addr × Obj)), Lg g L' m' s'.heap l' → s'.os = s.os → (AllBare s.gens → AllBare s'.gens) → Bk s h₀ L m core rest s' l') →
      wpAny (model PP w) (A.deeper (envX qual scope L' f cdv cl)) (execs body (envX qual scope L' f cdv cl)) (fun fl s' => Q (match fl with | .ret v => v | _ => .none) s') (fun _ _ => False)
        { s with heap := h₁, toks := s.toks + binds.length })
    (hcell : ∀ x ∈ scope.names, x.2 ≠ .cell) (hco : scope.isCoroutine = false := by rfl) (hgen : scope.isGenerator = false := by rfl) (hk : scope.kind = .function := by rfl) : wpAny (model PP w) A (call (.ref f) vals) Q E s :=
  wpAny_call (code_def W G ho hdt hcd hroom hbind hloc (fun g L' h₁ W' kp G' back => h g L' h₁ W' kp G' back) hcell hco hgen hk)
end
end Mine
end
section
open PySem PySem.W PyProof.Rows PySem.Calls PySem.Spec
set_option Elab.async false
set_option maxRecDepth 100000
set_option maxHeartbeats 4000000
set_option pp.maxSteps 3000
namespace Mine
theorem fill (w : World) (h₀ : Heap) : (hd.heap_1 w.params).In h₀ → PySem.Challenge.rw_zd0011_01.Holds → True := by k_fill; intros; trivial

noncomputable abbrev accObj (d : Addr) (vs : List Value) (n : Nat) : Obj := ⟨.ref 220, some d, .seq vs.toArray n, #[]⟩
noncomputable abbrev tupObj (vs : List Value) : Obj := { cls := .type "tuple", data := .seq vs.toArray }
noncomputable abbrev tabO (ts : List Value) : Obj := { cls := .none, data := .fields ts.toArray }
noncomputable abbrev listO (vs : List Value) (n : Nat) : Obj := ⟨.type "list", none, .seq vs.toArray n, #[]⟩

section
variable {w : World} {mg mb : Str → Option Value} {A : Around} {s : Shared} {h₀ : Heap} {L : Addr} {m : Str → Option Value} {core rest news : List (Addr × Obj)} {Q E : Value → Shared → Prop}

theorem accInst {h : Heap} {x d : Addr} {vs : List Value} {n : Nat} {es : List DictEntry} {k : Nat} (hx : h.get? x = some (accObj d vs n)) (hdd : h.get? d = some (dictOf es k)) : InstAt h x (accObj d vs n) 220 (some (dictOf es k)) := ⟨hx, rfl, rfl, hdd⟩

theorem acc_type {M : Model} {h : Heap} {x d : Addr} {vs : List Value} {n : Nat} (hx : h.get? x = some (accObj d vs n)) : Looks M h (typeOf (.ref x)) (.ref 220) := (Looks.ld hx).andThen .now
theorem acc_isi {M : Model} {h : Heap} {x d : Addr} {vs : List Value} {n : Nat} (X : (hd.heap_1 w.params).In h) (hx : h.get? x = some (accObj d vs n)) : Looks M h (isInstance (.ref x) (.type "list")) true :=
  (acc_type hx).andThen (looks_subIn X (by k_is))

theorem check_meth {M : Model} {A : Around} {E : Value → Shared → Prop} {s : Shared} {i owner n : String} {self : Value} {rest : List Value} {kw : List (Str × Value)} {Q : Unit → Shared → Prop}
    (hk : builtinKind i = some .method) (hs : splitId i = some (owner, n)) (hi : Looks M s.heap (isInstance self (.type owner)) true) (ha : argsOk i ⟨self :: rest, kw⟩) (q : Q () s) :
    wpAny M A (checkBuiltinCall i ⟨self :: rest, kw⟩) Q E s := by
  simp only [checkBuiltinCall, hk, hs]
  refine wpAny_bind (hi.here ?_)
  simp only [Bool.not_true, Bool.false_eq_true, if_false]
  cases hsig : Manifest.signature? i with
  | none => exact wpAny_pure q
  | some sig =>
    simp only [argsOk, hsig] at ha
    have h2 : Bind.checkArgs i sig ⟨self :: rest, kw⟩ = pure () := ha
    show wpAny M A (Bind.checkArgs i sig ⟨self :: rest, kw⟩) Q E s
    rw [h2]; exact wpAny_pure q

/-- a method of a built-in type, upon whatever is of it -/
theorem call_meth {i owner n : String} {self : Value} {rest : List Value} {b : Builtin} (hk : builtinKind i = some .method) (hs : splitId i = some (owner, n)) (hq : plainId i = true) (hb : entryFor table i = some b)
    (hi : Looks (model PP w) s.heap (isInstance self (.type owner)) true) (ha : argsOk i ⟨self :: rest, []⟩)
    (hc : wpAny (model PP w) A.in1 (b ⟨self :: rest, []⟩) (fun fin s' => ∃ v, fin = .done (.ret v) ∧ Q v s') E s) : wpAny (model PP w) A (call (.builtin i) (self :: rest)) Q E s := by
  refine wpAny_call (codeAny_call_builtin hq hb (check_meth hk hs hi ha (wpAny_mono hc (fun fin s' h' => ?_) fun _ _ h' => h')))
  obtain ⟨v, rfl, hv⟩ := h'; exact hv
theorem call_slot {i owner n : String} {self : Value} {rest : List Value} {b : Builtin} (hk : builtinKind i = some .slot) (hs : splitId i = some (owner, n)) (hq : plainId i = true) (hb : entryFor table i = some b)
    (hi : Looks (model PP w) s.heap (isInstance self (.type owner)) true) (ha : argsOk i ⟨self :: rest, []⟩)
    (hc : wpAny (model PP w) A.in1 (b ⟨self :: rest, []⟩) (fun fin s' => ∃ v, fin = .done (.ret v) ∧ Q v s') E s) : wpAny (model PP w) A (call (.builtin i) (self :: rest)) Q E s := by
  refine wpAny_call (codeAny_call_builtin hq hb (check_slot hk hs hi ha (wpAny_mono hc (fun fin s' h' => ?_) fun _ _ h' => h')))
  obtain ⟨v, rfl, hv⟩ := h'; exact hv

/-- a method of the class's, a def or a built-in, taken without the attribute's way -/
theorem getm_any {x C : Addr} {ox : Obj} {od : Option Obj} {name : Str} {pl : Sem Bool} {f t : Value} {ga : String} {Q : Value × List Value → Shared → Prop} (X : (hd.heap_1 w.params).In s.heap) (I : InstAt s.heap x ox C od)
    (hga : findIn (hd.heap_1 w.params) (.ref C) "__getattribute__" = some (some (.builtin ga))) (hcan : Manifest.canonical ga = "object.__getattribute__") (hk : findIn (hd.heap_1 w.params) (.ref C) "__getattr__" = some none)
    (hf : findIn (hd.heap_1 w.params) (.ref C) name = some (some f)) (ht : typeIn (hd.heap_1 w.params) f = some t) (hok : (t != .type "function" && t != .type "method_descriptor" && t != .type "wrapper_descriptor") = false) (hs : shadowIn od name = some false) (h : Q (f, [.ref x]) s) :
    wpAny (model PP w) A (getMethod (.ref x) name pl) Q E s := by
  unfold getMethod specialOf
  refine wpAny_bind (wpAny_bind (I.type.here ((looks_findIn X hga).here ?_)))
  dsimp only
  rw [hcan, if_neg (by decide)]
  refine wpAny_bind (wpAny_bind (I.type.here ((looks_findIn X hk).here ?_)))
  refine wpAny_bind (wpAny_bind (I.type.here ((looks_findIn X hf).here (wpAny_bind ((looks_typeIn X ht).here ?_)))))
  rw [if_neg (by rw [hok]; exact Bool.false_ne_true)]
  refine wpAny_bind (wpAny_loadPart I.at_ ?_)
  have hd := I.dict
  cases e : ox.dict with
  | none => exact wpAny_bind (wpAny_rule (wpAny_pure h))
  | some dx =>
    cases od with
    | none => rw [e] at hd; exact hd.elim
    | some o =>
      rw [e] at hd
      obtain ⟨r, a, b⟩ := Option.map_eq_some_iff.mp hs
      refine wpAny_bind (wpAny_bind (wpAny_loadPart hd ?_))
      rw [nsLook_of a]
      refine wpAny_pure ?_
      rw [b]
      exact wpAny_bind (wpAny_rule (wpAny_pure h))

theorem mapSeq_acc (d : Addr) (vs : List Value) (n : Nat) (f : Array Value → Array Value) : ∃ n', Obj.mapSeq f (accObj d vs n) = accObj d (f vs.toArray).toList n' := by
  obtain ⟨n', e⟩ := Obj.data_mapSeq (o := accObj d vs n) rfl f
  refine ⟨n', ?_⟩
  unfold Obj.mapSeq accObj at *
  simp_all

noncomputable abbrev isz (hk : Int) (tk : Tok) (z : Value) : List DictEntry := [⟨hk, .str (Str.ofString "_initial_size") tk, z⟩]
/-- an accumulator of a size that began at nought, and the two tables of code that its methods fill -/
noncomputable def Acc (x d : Addr) (vs : List Value) (l : List (Addr × Obj)) : Prop :=
  ∃ n hk tk tz k t1 t2, l = [(x, accObj d vs n), (d, dictOf (isz hk tk (.int 0 tz)) k), (182, tabO t1), (189, tabO t2)] ∧ TriplesOk t1 ∧ TriplesOk t2 ∧ vs.length ≤ 100

/-- the ledger behind one written entry -/
theorem acc_append {x d : Addr} {vs : List Value} {n i : Nat} {v : Value} (W : Wd w mg mb h₀) (G : Lg h₀ L m s.heap news) (hi : news[i]? = some (x, accObj d vs n)) (hz : vs.length ≤ 1000)
    (h : ∀ h' n', Lg h₀ L m h' (news.set i (x, accObj d (vs ++ [v]) n')) → Q .none { s with heap := h' }) : wpAny (model PP w) A (call (.builtin "list.append") [.ref x, v]) Q E s := by
  have hx := G.get hi
  refine call_meth (i := "list.append") (owner := "list") (n := "append") (by decide +kernel) (by decide +kernel) PySem.F.slot_list_append.plain PySem.F.entry_list_append (acc_isi (W.X.keeps G.fr.keep) hx) (PySem.F.args_list_append_2 _ _) ?_
  show wpAny _ _ (updateSeq x (·.push v) >>= fun _ => ret .none) _ _ s
  refine wpAny_bind (wpAny_updateSeq hx rfl (wpAny_pure ⟨.none, rfl, ?_⟩) (by rw [List.size_toArray, sizeLine_eq]; omega) (by simp only [Array.size_push, List.size_toArray]; rw [sizeLine_eq]; omega))
  obtain ⟨n', e⟩ := mapSeq_acc d vs n (·.push v)
  refine h _ n' ?_
  have := G.update hi (f := Obj.mapSeq (·.push v)) (by rw [e]; rfl)
  rw [e] at this
  simpa using this
end
end Mine
end
section
open PySem PySem.W PyProof.Rows PySem.Calls PySem.Spec
set_option Elab.async false
set_option maxRecDepth 100000
set_option maxHeartbeats 4000000
set_option pp.maxSteps 3000
namespace Mine
theorem fill4 (w : World) (h₀ : Heap) : (hd.heap_1 w.params).In h₀ → PySem.Challenge.rw_zd0011_01.Holds → True := by k_fill; intros; trivial
section
variable {w : World} {mg mb : Str → Option Value} {A : Around} {s : Shared} {h₀ : Heap} {L : Addr} {m : Str → Option Value} {l rest news : List (Addr × Obj)} {Q E : Value → Shared → Prop}

theorem code_push {x d : Addr} {vs : List Value} {f p : Str} {tf tp : Tok} {R : Result → Shared → Prop} (ha : Acc x d vs l) (hz : vs.length < 100)
    (W : Wd w mg mb h₀) (G : Lg h₀ L m s.heap (l ++ rest)) (hroom : A.depth < recursionLimit)
    (h : ∀ s' t l', Acc x d (vs ++ [.ref t]) l' → Bk s h₀ L m l rest s' l' → s'.heap.get? t = some (tupObj [.str f tf, .str p tp]) → (∀ b us, s.heap.get? b = some (tupObj us) → b ≠ t) → R (.ok (.ret .none)) s') :
    codeAny (model PP w) A (.call (.ref 164) ⟨[.ref x, .str f tf, .str p tp], []⟩) R s := by
  obtain ⟨n, hk, tk, tz, k, t1, t2, rfl, ok1, ok2, hl⟩ := ha
  refine code_def (cl := []) (binds := [("self", .ref x), ("fws", .str f tf), ("string", .str p tp)]) W G (by k_is) rfl (by k_is) hroom (.of_eq rfl) (by rfl) ?_ (by decide)
  intro g L' h₁ W' kp G' back
  refine wpAny_execs_cons ?_
  refine wpAny_Expr_any ?_
  refine MethodCall_ ?_
  refine nameX_L G'.fr rfl ?_
  refine getm_any (W'.X.keeps G'.fr.keep) (accInst (G'.get (i := 0) rfl) (G'.get (i := 1) rfl)) (by k_is) (by decide +kernel) (by k_is) (by k_is) (by k_is) (by rfl) (by rfl) ?_
  refine callWith_method1 ?_
  refine spliced_more ?_
  refine Tuple_ ?_
  refine spliced_more ?_
  refine nameX_L G'.fr rfl ?_
  refine spliced_more ?_
  refine nameX_L G'.fr rfl ?_
  refine spliced_none ?_
  have G2 := G'.alloc (tupObj [.str f tf, .str p tp])
  refine wpAny_newObj_type ?_ (by show 2 ≤ sizeLine; rw [sizeLine_eq]; omega)
  refine spliced_none ?_
  refine acc_append W' G2 (i := 1) rfl (by omega) fun h' n' G3 => ?_
  refine wpAny_execs_nil ?_
  have hnew : g.get? h₁.objs.size = none := (G2.nw _ (List.mem_cons_self)).2.2
  refine h _ h₁.objs.size _ ⟨_, _, _, _, _, _, _, rfl, ok1, ok2, by simp; omega⟩ (back _ _ _ (G3.drop (.cons _ (.refl _))) rfl id) (G3.get (i := 0) rfl) fun b us e q => ?_
  have nc : b ∉ ([(x, accObj d vs n), (d, dictOf (isz hk tk (.int 0 tz)) k), (182, tabO t1), (189, tabO t2)] : List (Addr × Obj)).map (·.1) := fun z => by
    obtain ⟨p, hp, e'⟩ := List.mem_map.mp z
    have := (G.nw p (List.mem_append_left _ hp)).1
    rw [e', e] at this
    have e2 := congrArg Obj.cls (Option.some.inj this)
    simp only [List.mem_cons, List.not_mem_nil, or_false] at hp
    rcases hp with rfl | rfl | rfl | rfl <;> exact absurd e2 (by simp)
  have := kp b _ e nc
  rw [q, hnew] at this
  cases this
theorem c_push {x d : Addr} {vs : List Value} {f p : Str} {tf tp : Tok} (ha : Acc x d vs l) (hz : vs.length < 100)
    (W : Wd w mg mb h₀) (G : Lg h₀ L m s.heap (l ++ rest)) (hroom : A.depth < recursionLimit)
    (h : ∀ s' t l', Acc x d (vs ++ [.ref t]) l' → Bk s h₀ L m l rest s' l' → s'.heap.get? t = some (tupObj [.str f tf, .str p tp]) → (∀ b us, s.heap.get? b = some (tupObj us) → b ≠ t) → Q .none s') :
    wpAny (model PP w) A (call (.ref 164) [.ref x, .str f tf, .str p tp]) Q E s :=
  wpAny_call (code_push ha hz W G hroom fun s' t l' ha B ht hf => h s' t l' ha B ht hf)
end
end Mine
end
section
open PySem PySem.W PyProof.Rows PySem.Calls PySem.Spec
set_option Elab.async false
set_option maxRecDepth 100000
set_option maxHeartbeats 4000000
set_option pp.maxSteps 3000
namespace Mine
theorem fill5 (w : World) (h₀ : Heap) : (hd.heap_1 w.params).In h₀ → PySem.Challenge.rw_zd0011_01.Holds → True := by k_fill; intros; trivial
section
variable {w : World} {mg mb : Str → Option Value} {A : Around} {s : Shared} {h₀ : Heap} {L : Addr} {m : Str → Option Value} {core rest news : List (Addr × Obj)}

theorem code_defAt {R : Result → Shared → Prop} {f : Addr} {fo : Obj} {name qual : Str} {params : Arguments} {body : List Stmt} {scope : Scope} {cl : List (Str × Addr)} {dV kV doc pm cdv ct : Value} {an : Option Addr} {vals : List Value} {binds : List (Str × Value)}
    (W : Wd w mg mb h₀) (G : Lg h₀ L m s.heap (core ++ rest)) (ho : (hd.heap_1 w.params).lookup f = some fo) (hdt : fo.data = .func (fnX name qual params body scope cl dV kV doc pm an cdv ct)) (hcd : codeIn (hd.heap_1 w.params) cdv qual = true) (hroom : A.depth < recursionLimit)
    (hbind : BindsTo s (fnX name qual params body scope cl dV kV doc pm an cdv ct) ⟨vals, []⟩ binds) (hloc : (binds.all fun x => decide (scope.names.lookup x.1 = some .local)) = true)
    (h : ∀ g L' h₁, Wd w mg mb g → (∀ b o, s.heap.get? b = some o → b ∉ core.map (·.1) → g.get? b = some o) → Lg g L' (fun y => binds.reverse.lookup y) h₁ core →
      (∀ (s' : Shared) (m' : Str → Option Value) (l' : List (Addr × Obj)), Lg g L' m' s'.heap l' → s'.os = s.os → (AllBare s.gens → AllBare s'.gens) → Bk s h₀ L m core rest s' l') →
      _root_.PySem.wpAt (model PP w) (A.deeper (envX qual scope L' f cdv cl)) (.func body (envX qual scope L' f cdv cl)) (execs body (envX qual scope L' f cdv cl)) (fun fl s' => R (.ok (.ret (match fl with | .ret v => v | _ => .none))) s') (fun _ _ => False)
        { s with heap := h₁, toks := s.toks + binds.length })
    (hcell : ∀ x ∈ scope.names, x.2 ≠ .cell) (hco : scope.isCoroutine = false := by rfl) (hgen : scope.isGenerator = false := by rfl) (hk : scope.kind = .function := by rfl) : codeAny (model PP w) A (.call (.ref f) ⟨vals, []⟩) R s := by
  have st : ∀ b o, h₀.get? b = some o → (hideAll s.heap (core.map (·.1))).get? b = some o := fun b o e => hideAll_get _ (G.fr.keep b o e) (G.h0_core b o e)
  refine ks_codeAny_call_defAt (fd := fnX name qual params body scope cl dV kV doc pm an cdv ct) (body := body) (binds := binds) hroom (G.fr.keep _ _ (W.X _ _ ho)) hdt (W.T.nolimit.keeps G.fr.keep) (codeRec_of (W.X.keeps G.fr.keep) hcd) rfl hbind hcell (locs hloc) (fun h₁ hns hk₁ => ?_) hco hgen hk
  refine ks_wpAt_mono (h (hideAll s.heap (core.map (·.1))) s.heap.objs.size h₁ (W.keeps st) G.hideCore ⟨⟨hns, fun b o e => hk₁ b o (of_hideAll _ e), Nat.le_of_eq (hideAll_size _ _)⟩, fun p hp => ?_, ?_⟩
    (fun s' m' l' G' ho hg => ⟨G.back G', fun b o e n => G'.fr.keep b o (G.hideCore b o e n), ho, hg⟩)) (fun fl s' hl => hl) fun _ _ y => y.elim
  · have hp' := List.mem_append_left rest hp
    exact ⟨hk₁ _ _ (G.nw p hp').1, Nat.ne_of_lt (Heap.lt_size (G.nw p hp').1), hideAll_none _ (List.mem_map_of_mem hp)⟩
  · have nd := G.nd
    rw [List.map_append, List.nodup_append] at nd
    exact nd.1

theorem call_defAt {Q E : Value → Shared → Prop} {f : Addr} {fo : Obj} {name qual : Str} {params : Arguments} {body : List Stmt} {scope : Scope} {cl : List (Str × Addr)} {dV kV doc pm cdv ct : Value} {an : Option Addr} {vals : List Value} {binds : List (Str × Value)}
    (W : Wd w mg mb h₀) (G : Lg h₀ L m s.heap (core ++ rest)) (ho : (hd.heap_1 w.params).lookup f = some fo) (hdt : fo.data = .func (fnX name qual params body scope cl dV kV doc pm an cdv ct)) (hcd : codeIn (hd.heap_1 w.params) cdv qual = true) (hroom : A.depth < recursionLimit)
    (hbind : BindsTo s (fnX name qual params body scope cl dV kV doc pm an cdv ct) ⟨vals, []⟩ binds) (hloc : (binds.all fun x => decide (scope.names.lookup x.1 = some .local)) = true)
    (h : ∀ g L' h₁, Wd w mg mb g → (∀ b o, s.heap.get? b = some o → b ∉ core.map (·.1) → g.get? b = some o) → Lg g L' (fun y => binds.reverse.lookup y) h₁ core →
      (∀ (s' : Shared) (m' : Str → Option Value) (l' : List (Addr × Obj)), Lg g L' m' s'.heap l' → s'.os = s.os → (AllBare s.gens → AllBare s'.gens) → Bk s h₀ L m core rest s' l') →
      _root_.PySem.wpAt (model PP w) (A.deeper (envX qual scope L' f cdv cl)) (.func body (envX qual scope L' f cdv cl)) (execs body (envX qual scope L' f cdv cl)) (fun fl s' => Q (match fl with | .ret v => v | _ => .none) s') (fun _ _ => False)
        { s with heap := h₁, toks := s.toks + binds.length })
    (hcell : ∀ x ∈ scope.names, x.2 ≠ .cell) (hco : scope.isCoroutine = false := by rfl) (hgen : scope.isGenerator = false := by rfl) (hk : scope.kind = .function := by rfl) : wpAny (model PP w) A (call (.ref f) vals) Q E s :=
  wpAny_call (code_defAt W G ho hdt hcd hroom hbind hloc (fun g L' h₁ W' kp G' back => h g L' h₁ W' kp G' back) hcell hco hgen hk)

/-- a new object at the heap's end, the older ones standing -/
theorem Lg.grow (G : Lg h₀ L m s.heap news) {h' : Heap} {o : Obj} (ho : h'.get? s.heap.objs.size = some o) (k : ∀ b o, s.heap.get? b = some o → h'.get? b = some o) : Lg h₀ L m h' ((s.heap.objs.size, o) :: news) := by
  obtain ⟨F', N', l⟩ := ks_newsPush G.fr G.nw rfl ho k
  refine ⟨F', N', ?_⟩
  rw [List.map_cons, List.nodup_cons]
  refine ⟨fun hm => ?_, G.nd⟩
  obtain ⟨p, hp, e⟩ := List.mem_map.mp hm
  have := l p hp
  rw [e] at this
  exact Nat.lt_irrefl _ this

noncomputable abbrev supO (x : Addr) : Obj := ks_superObj 220 x 220

theorem sup_node {Q E : Value → Shared → Prop} {body : List Stmt} {q : Str} {scope : Scope} {p0 p1 : Pos} {attr : Str} {whole : Sem Value} {f cda cc x d : Addr} {fo co lo : Obj} {fd : FuncData} {ar : Arg} {cvs : Array Value} {file : Str} {tf : Tok} {vs : List Value} {n i : Nat}
    (W : Wd w mg mb h₀) (G : Lg h₀ L m s.heap news) (hi : news[i]? = some (x, accObj d vs n))
    (hf : (hd.heap_1 w.params).lookup f = some fo) (hfd : fo.data = .func fd) (hp : (fd.params.posonlyargs ++ fd.params.args).head? = some ar) (hv : m ar.arg = some (.ref x))
    (hcode : (hd.heap_1 w.params).lookup cda = some co) (hco : co.data = .fields cvs) (hvs : cvs[2]? = some (.str file tf)) (hfile : (((PP).main.file : Str) == file) = true)
    (hcell : (hd.heap_1 w.params).lookup cc = some lo) (hlo : lo.data = .cell (some (.ref 220)))
    (hat : (attr == ("__class__" : Str)) = false) (hks : scope.names.lookup ("super" : Str) = some .globalImplicit) (hkc : scope.names.lookup ("__class__" : Str) = some .free) (hka : scope.names.lookup ar.arg = some .local) (hk : scope.kind = .function)
    (htop : ((PP).main.scope.names.lookup ("super" : Str)).isSome = false)
    (h : ∀ so h', Lg h₀ L m h' ((so, supO x) :: news) → Q (.ref so) { s with heap := h' }) :
    _root_.PySem.wpAt (model PP w) A (.func body (envX q scope L f (.ref cda) [("__class__", cc)])) (attributeBase (.Call (.Name "super" p0) [] [] p1) attr (envX q scope L f (.ref cda) [("__class__", cc)]) whole) Q E s := by
  have X : (hd.heap_1 w.params).In s.heap := W.X.keeps G.fr.keep
  have hx := G.get hi
  obtain ⟨hh, g, dr, t, os⟩ := s
  dsimp only at X hx G
  obtain ⟨oD, cdD, hD1, hD2⟩ : ∃ oD cdD, hh.get? 220 = some oD ∧ oD.data = .cls cdD := by
    refine ⟨_, _, X 220 _ (by k_is), rfl⟩
  refine ks_wpAt_super_base (env := envX q scope L f (.ref cda) [("__class__", cc)]) hks hkc hat rfl (X _ _ hf) hfd hp rfl (X _ _ hcode) hco hvs hfile htop ?_
  refine ks_loadName_global hk hks (loadGlobal_builtin (env := envX q scope L f (.ref cda) [("__class__", cc)]) (W.T.g.keeps G.fr.keep) (mg_none_of W.X W.T.g (by k_is)) (W.T.b.keeps G.fr.keep) ((W.T.builtins _ (by decide +kernel)).trans (by boot_by_name)) ⟨rfl, ?_⟩)
  refine wpAny_loadName_free hk hkc rfl ⟨_, X _ _ hcell, hlo⟩ ?_
  refine wpAny_loadName_local hk hka G.fr.ns hv ?_
  refine ks_wpAny_isType_cls hD1 hD2 ⟨rfl, ?_⟩
  refine ks_wpAny_call_super hD1 hD2 hx rfl (fun c e => by cases e) (looks_mroIn X (by k_is)) (fun h' e k => ?_)
  exact h _ _ (Lg.grow (s := ⟨hh, g, dr, t, os⟩) G e k)
end
end Mine
end
section
open PySem PySem.W PyProof.Rows PySem.Calls PySem.Spec
set_option Elab.async false
set_option maxRecDepth 100000
set_option maxHeartbeats 4000000
set_option pp.maxSteps 3000
namespace Mine
theorem fill6 (w : World) (h₀ : Heap) : (hd.heap_1 w.params).In h₀ → PySem.Challenge.rw_zd0011_01.Holds → True := by k_fill; intros; trivial
theorem slot_md_get : Slot "method_descriptor" "__get__" "method_descriptor.__get__" := .of (owner := "method_descriptor") (n := "__get__") (by rw [typeLookup_type, builtinLookup_eq_fast]; kernel_rfl) (by decide +kernel) (by decide +kernel) (by decide +kernel)
  (by first | exact .inl (by decide +kernel) | exact .inr (by decide +kernel)) (by rw [isSubtype_type]; kernel_rfl)
theorem slot_wd_get : Slot "wrapper_descriptor" "__get__" "wrapper_descriptor.__get__" := .of (owner := "wrapper_descriptor") (n := "__get__") (by rw [typeLookup_type, builtinLookup_eq_fast]; kernel_rfl) (by decide +kernel) (by decide +kernel) (by decide +kernel)
  (by first | exact .inl (by decide +kernel) | exact .inr (by decide +kernel)) (by rw [isSubtype_type]; kernel_rfl)
theorem entry_md_get : entryFor table "method_descriptor.__get__" = some Builtin.«method_descriptor.__get__» := entryFor_of_tree (by kernel_rfl)
theorem entry_wd_get : entryFor table "wrapper_descriptor.__get__" = some Builtin.«wrapper_descriptor.__get__» := entryFor_of_tree (by kernel_rfl)
theorem args_md_get (a b c : Value) : argsOk "method_descriptor.__get__" ⟨[a, b, c], []⟩ := by unfold argsOk; kernel_rfl
theorem args_wd_get (a b c : Value) : argsOk "wrapper_descriptor.__get__" ⟨[a, b, c], []⟩ := by unfold argsOk; kernel_rfl

noncomputable abbrev boundO (T id : String) (x : Addr) : Obj := { cls := .type T, data := .fields #[.builtin id, .ref x] }
section
variable {w : World} {M : Model} {A : Around} {E : Value → Shared → Prop} {s : Shared}
theorem md_get_pop {x : Addr} {Q : Fin → Shared → Prop} (hi : Looks M s.heap (isInstance (.ref x) (.type "list")) true)
    (h : Q (.done (.ret (.ref s.heap.objs.size))) { s with heap := s.heap.push (boundO "builtin_function_or_method" "list.pop" x) }) : wpAny M A (Builtin.«method_descriptor.__get__» ⟨[.builtin "list.pop", .ref x, .ref 220], []⟩) Q E s := by
  unfold Builtin.«method_descriptor.__get__»
  refine wpAny_bind (wpAny_of_eq (a := (.builtin "list.pop", some (.ref x), some (.ref 220))) (by kernel_rfl) ?_)
  dsimp only
  rw [if_neg (by decide +kernel)]
  refine wpAny_bind ?_
  wp_delta
  refine wpAny_bind (wpAny_of_eq (a := (Str.ofString "pop", .type "list")) (by kernel_rfl) ?_)
  refine wpAny_bind (hi.here ?_)
  refine wpAny_pure ?_
  refine wpAny_bind (wpAny_newObj_type ?_ (by size_fits))
  exact wpAny_pure h
theorem wd_get {x : Addr} {id : String} {Q : Fin → Shared → Prop} (hi : Looks M s.heap (isInstance (.ref x) (.type "list")) true)
    (hid : id = "list.__len__" ∨ id = "list.__init__")
    (h : Q (.done (.ret (.ref s.heap.objs.size))) { s with heap := s.heap.push (boundO "method-wrapper" id x) }) : wpAny M A (Builtin.«wrapper_descriptor.__get__» ⟨[.builtin id, .ref x, .ref 220], []⟩) Q E s := by
  unfold Builtin.«wrapper_descriptor.__get__»
  refine wpAny_bind (wpAny_of_eq (a := (.builtin id, some (.ref x), some (.ref 220))) (by kernel_rfl) ?_)
  dsimp only
  refine wpAny_bind ?_
  wp_delta
  rcases hid with rfl | rfl
  · refine wpAny_bind (wpAny_of_eq (a := (Str.ofString "__len__", .type "list")) (by kernel_rfl) ?_)
    refine wpAny_bind (hi.here ?_)
    refine wpAny_pure ?_
    refine wpAny_bind (wpAny_newObj_type ?_ (by size_fits))
    exact wpAny_pure h
  · refine wpAny_bind (wpAny_of_eq (a := (Str.ofString "__init__", .type "list")) (by kernel_rfl) ?_)
    refine wpAny_bind (hi.here ?_)
    refine wpAny_pure ?_
    refine wpAny_bind (wpAny_newObj_type ?_ (by size_fits))
    exact wpAny_pure h
end
section
variable {w : World} {A : Around} {E : Value → Shared → Prop} {h : Heap} {g : Array GenState} {d : Drawn} {t : Nat} {os : OsState}
theorem sup_ga {so x da : Addr} {vs : List Value} {n : Nat} {id T gid BT : String} {B : Builtin} {name : Str} {tk : Tok} {Q : Fin → Shared → Prop} (X : (hd.heap_1 w.params).In h)
    (hso : h.get? so = some (supO x)) (hx : h.get? x = some (accObj da vs n))
    (hf : alongIn (hd.heap_1 w.params) name [.type "list", .type "object"] = some (some (.builtin id))) (hT : typeOf (.builtin id) = pure (.type T)) (hS : Slot T "__get__" gid) (hB : entryFor table gid = some B) (hargs : ∀ a b c, argsOk gid ⟨[a, b, c], []⟩)
    (hget : ∀ (A : Around) (E : Value → Shared → Prop) (Q : Fin → Shared → Prop), Q (.done (.ret (.ref h.objs.size))) ⟨h.push (boundO BT id x), g, d, t, os⟩ → wpAny (model PP w) A (B ⟨[.builtin id, .ref x, .ref 220], []⟩) Q E ⟨h, g, d, t, os⟩)
    (hn : (name == ("__class__" : Str)) = false) (hxC : x ≠ 220)
    (hq : Q (.done (.ret (.ref h.objs.size))) ⟨h.push (boundO BT id x), g, d, t, os⟩) :
    wpAny (model PP w) A (Builtin.«super.__getattribute__» ⟨[.ref so, .str name tk], []⟩) Q E ⟨h, g, d, t, os⟩ := by
  have hlk := hS.lookup
  have hno : Looks (model PP w) h (opaqueClassAbove (.ref 220)) none := looks_opaque X (by k_is)
  have hC : Looks (model PP w) h (mroOf (.ref 220)) [.ref 220, .type "list", .type "object"] := fun A Q E s k q => wpAny_bind ((looks_clsIn X (C := 220) (by k_is)) A _ E s k (wpAny_pure q))
  have hl : (([.ref 220, .type "list", .type "object"] : List Value).dropWhile (· != .ref 220)).drop 1 = [.type "list", .type "object"] := by decide +kernel
  have hne : (Value.ref x == Value.ref 220) = false := by simp [hxC]
  have hTf : (⟨h, g, d, t, os⟩ : Shared).TypeIs (.builtin id) T := hT
  have hdt : (supO x).data = .fields #[.ref 220, .ref x, .ref 220] := rfl
  have f0 : (#[.ref 220, .ref x, .ref 220] : Array Value)[0]? = some (.ref 220) := rfl
  have f1 : (#[.ref 220, .ref x, .ref 220] : Array Value)[1]? = some (.ref x) := rfl
  have f2 : (#[.ref 220, .ref x, .ref 220] : Array Value)[2]? = some (.ref 220) := rfl
  unfold Builtin.«super.__getattribute__»
  repeat (first
    | (with_reducible refine wpAny_field hso hdt f0 ?_) | (with_reducible refine wpAny_field hso hdt f1 ?_) | (with_reducible refine wpAny_field hso hdt f2 ?_)
    | (with_reducible refine ks_wpAny_notOpaque hno ?_)
    | (with_reducible refine Looks.at hC ?_; rw [hl])
    | (refine ks_forIn_along X (fun _ _ => rfl) rfl ?_ hf)
    | (with_reducible refine wpAny_typeOf hTf ?_)
    | (with_reducible refine wpAny_call_entry hS hTf hB ?_ (hargs _ _ _))
    | (with_reducible refine hget _ _ _ ?_)
    | (with_reducible refine ⟨_, rfl, ?_⟩)
    | (simp only [hn, hne, Bool.or_false, Bool.false_eq_true, if_false])
    | wp_step
    | dsimp only)
  all_goals exact hq
end
end Mine
end
section
open PySem PySem.W PyProof.Rows PySem.Calls PySem.Spec
set_option Elab.async false
set_option maxRecDepth 100000
set_option maxHeartbeats 4000000
set_option pp.maxSteps 3000
namespace Mine
theorem fill7 (w : World) (h₀ : Heap) : (hd.heap_1 w.params).In h₀ → PySem.Challenge.rw_zd0011_01.Holds → True := by k_fill; intros; trivial
section
variable {w : World} {A : Around} {E : Value → Shared → Prop} {h : Heap} {g : Array GenState} {d : Drawn} {t : Nat} {os : OsState}
theorem sup_getm {so x da : Addr} {vs : List Value} {n : Nat} {id T gid BT : String} {B : Builtin} {name : Str} {pl : Sem Bool} {Q : Value × List Value → Shared → Prop} (X : (hd.heap_1 w.params).In h)
    (hso : h.get? so = some (supO x)) (hx : h.get? x = some (accObj da vs n))
    (hf : alongIn (hd.heap_1 w.params) name [.type "list", .type "object"] = some (some (.builtin id))) (hT : typeOf (.builtin id) = pure (.type T)) (hS : Slot T "__get__" gid) (hB : entryFor table gid = some B) (hargs : ∀ a b c, argsOk gid ⟨[a, b, c], []⟩)
    (hget : ∀ (t : Nat) (A : Around) (E : Value → Shared → Prop) (Q : Fin → Shared → Prop), Q (.done (.ret (.ref h.objs.size))) ⟨h.push (boundO BT id x), g, d, t, os⟩ → wpAny (model PP w) A (B ⟨[.builtin id, .ref x, .ref 220], []⟩) Q E ⟨h, g, d, t, os⟩)
    (hn : (name == ("__class__" : Str)) = false) (hxC : x ≠ 220)
    (hq : Q (.ref h.objs.size, []) ⟨h.push (boundO BT id x), g, d, t + 1, os⟩) :
    wpAny (model PP w) A (getMethod (.ref so) name pl) Q E ⟨h, g, d, t, os⟩ := by
  have hlk := F.ks_slot_super_ga.lookup
  have hcan := F.ks_canon_super_ga
  have hTs : ∀ t', (⟨h, g, d, t', os⟩ : Shared).TypeIs (.ref so) "super" := fun _ => ⟨_, hso, rfl⟩
  unfold getMethod
  refine wpAny_bind (wpAny_specialOf (hTs _) hlk ?_)
  show wpAny _ _ (if (Manifest.canonical "super.__getattribute__" != "object.__getattribute__") = true then _ else _) _ _ _
  rw [if_pos hcan]
  unfold getAttr getAttrBy
  refine wpAny_bind (wpAny_bind (wpAny_mkText (wpAny_holding (wpAny_bind (wpAny_typeOf (hTs _) (wpAny_bind (wpAny_of_eq hlk ?_)))))))
  show wpAny _ _ (getAttrByItsOwn (.ref so) (.str name t) (.type "super") (.builtin "super.__getattribute__") true false) _ _ _
  unfold getAttrByItsOwn hookBefore callGetattribute boundAndCalled
  refine wpAny_bind (wpAny_of_eq (show (if onTheHeap (.type "super") then typeLookup (.type "super") "__getattr__" else pure none) = pure none from rfl) ?_)
  refine wpAny_bind (wpAny_attempt (wpAny_holding ?_))
  show wpAny _ _ (bindSpecial (.builtin "super.__getattribute__") (.ref so) >>= _) _ _ _
  refine wpAny_bind (wpAny_of_eq (F.ks_slot_super_ga.bind _) ?_)
  refine wpAny_mono (Q := fun v s' => v = .ref h.objs.size ∧ s' = ⟨h.push (boundO BT id x), g, d, t + 1, os⟩) (E := fun _ _ => False)
    (wpAny_call_entry F.ks_slot_super_ga (hTs _) F.ks_entry_super_ga (sup_ga X hso hx hf hT hS hB hargs (hget _) hn hxC ⟨_, rfl, rfl, rfl⟩) (F.ks_gaArgs_super _ _)) (fun v s' hv => ?_) fun _ _ z => z.elim
  obtain ⟨rfl, rfl⟩ := hv
  exact wpAny_pure (wpAny_pure hq)
end
section
variable {w : World} {A : Around} {E : Value → Shared → Prop} {s : Shared}
/-- a bound method of a built-in's is called -/
theorem call_bound {q x : Addr} {T id : String} {B : Builtin} {vals : List Value} {Q : Value → Shared → Prop} (hT : T = "builtin_function_or_method" ∨ T = "method-wrapper") (hq : s.heap.get? q = some (boundO T id x))
    (hplain : plainId id = true) (hB : entryFor table id = some B)
    (hc : ∀ (A : Around) (Q : Unit → Shared → Prop) (E : Value → Shared → Prop), Q () s → wpAny (model PP w) A (checkBoundCall id ⟨.ref x :: vals, []⟩) Q E s)
    (h : wpAny (model PP w) A.in1 (B ⟨.ref x :: vals, []⟩) (fun fin s' => ∃ v, fin = .done (.ret v) ∧ Q v s') E s) : wpAny (model PP w) A (call (.ref q) vals) Q E s := by
  refine wpAny_call (codeAny_of_tree ?_)
  show wpAny _ A.in1 (callAny (.ref q) ⟨vals, []⟩) _ _ _
  unfold callAny
  refine wpAny_bind (wpAny_load hq ?_)
  dsimp only
  rw [if_pos (by rcases hT with rfl | rfl <;> rfl)]
  have hne : ((Value.type T != Value.type "method") = true) := by rcases hT with rfl | rfl <;> rfl
  show wpAny _ _ (if (Value.type T != Value.type "method") = true then (do checkBoundCall id ⟨.ref x :: vals, []⟩; again (.builtin id ⟨.ref x :: vals, []⟩)) else _) _ _ _
  rw [if_pos hne]
  refine wpAny_bind (hc _ _ _ (wpAny_pure ⟨plainId_quiet hplain _, codeAny_builtin hB ?_⟩))
  rw [Around.under_plainId hplain]
  refine wpAny_mono h (fun fin s' h' => ?_) fun _ _ e => e
  obtain ⟨v, rfl, hv⟩ := h'
  exact hv
theorem keeps_B {M : Model} {q x : Addr} {T id : String} (hT : T = "builtin_function_or_method" ∨ T = "method-wrapper") (h : Heap) (X : h.get? q = some (boundO T id x)) :
    ∃ k, (k = Keeper.frame ∨ k = Keeper.machine ∨ k = Keeper.boundFrame) ∧ Looks M h (keeperOf (.ref q)) k := by
  refine ⟨.machine, .inr (.inl rfl), (Looks.ld (part := none) X).andThen ?_⟩
  rcases hT with rfl | rfl <;> exact .now
theorem callWith_B0 {pos : Pos} {env : Env} {q x : Addr} {T id : String} {Q : Value → Shared → Prop} (hT : T = "builtin_function_or_method" ∨ T = "method-wrapper") (hq : s.heap.get? q = some (boundO T id x))
    (h : wpAny (model PP w) A (call (.ref q) []) Q E s) : wpAny (model PP w) A (callWith pos (.ref q) [] (backTo pos (starEach [] env)) []) Q E s :=
  callWith_of (P := fun h => h.get? q = some (boundO T id x)) rfl (keeps_B hT) (evalArgs_nil3 ⟨hq, h⟩)
end
end Mine
end
section
open PySem PySem.W PyProof.Rows PySem.Calls PySem.Spec
set_option Elab.async false
set_option maxRecDepth 100000
set_option maxHeartbeats 4000000
set_option pp.maxSteps 3000
namespace Mine
theorem fill8 (w : World) (h₀ : Heap) : (hd.heap_1 w.params).In h₀ → PySem.Challenge.rw_zd0011_01.Holds → True := by k_fill; intros; trivial
section
variable {w : World} {mg mb : Str → Option Value} {A : Around} {s : Shared} {h₀ : Heap} {L : Addr} {m : Str → Option Value} {l rest news : List (Addr × Obj)} {Q E : Value → Shared → Prop}

theorem acc_ne220 {h : Heap} {x d : Addr} {vs : List Value} {n : Nat} (X : (hd.heap_1 w.params).In h) (hx : h.get? x = some (accObj d vs n)) : x ≠ 220 := by
  rintro rfl
  have e := X 220 _ (by k_is)
  rw [hx] at e
  cases e

theorem len_body {x d : Addr} {vs : List Value} {n : Nat} {A : Around} {Q : Fin → Shared → Prop} {E : Value → Shared → Prop} (hx : s.heap.get? x = some (accObj d vs n)) (h : ∀ t tk, Q (.done (.ret (.int vs.length t))) { s with toks := tk }) : wpAny (model PP w) A (Builtin.«list.__len__» ⟨[.ref x], []⟩) Q E s := by
  obtain ⟨hh, g, dr, t, os⟩ := s
  unfold Builtin.«list.__len__» retInt mkInt
  refine wpAny_bind (wpAny_of_eq (a := (.ref x, [])) (by kernel_rfl) ?_)
  dsimp only
  wp_walk
  rw [List.size_toArray]
  exact h _ _

theorem type_llen : typeOf (.builtin "list.__len__") = pure (.type "wrapper_descriptor") := by show builtinType _ = _; rw [builtinType_eq_fast]; kernel_rfl
theorem type_linit : typeOf (.builtin "list.__init__") = pure (.type "wrapper_descriptor") := by show builtinType _ = _; rw [builtinType_eq_fast]; kernel_rfl
theorem type_lpop : typeOf (.builtin "list.pop") = pure (.type "method_descriptor") := by show builtinType _ = _; rw [builtinType_eq_fast]; kernel_rfl
theorem plain_llen : plainId "list.__len__" = true := by decide +kernel
theorem plain_linit : plainId "list.__init__" = true := by decide +kernel
theorem plain_lpop : plainId "list.pop" = true := by decide +kernel
theorem entry_llen : entryFor table "list.__len__" = some Builtin.«list.__len__» := entryFor_of_tree (by kernel_rfl)
theorem entry_linit : entryFor table "list.__init__" = some Builtin.«list.__init__» := entryFor_of_tree (by kernel_rfl)
theorem entry_lpop : entryFor table "list.pop" = some Builtin.«list.pop» := entryFor_of_tree (by kernel_rfl)
theorem chk_llen {M : Model} {A : Around} {Q : Unit → Shared → Prop} {E : Value → Shared → Prop} {x : Addr} (h : Q () s) : wpAny M A (checkBoundCall "list.__len__" ⟨[.ref x], []⟩) Q E s :=
  wpAny_of_eq (by kernel_rfl) h
theorem chk_linit {M : Model} {A : Around} {Q : Unit → Shared → Prop} {E : Value → Shared → Prop} {x : Addr} (h : Q () s) : wpAny M A (checkBoundCall "list.__init__" ⟨[.ref x], []⟩) Q E s :=
  wpAny_of_eq (by kernel_rfl) h

theorem c_pc {x d : Addr} {vs : List Value} (ha : Acc x d vs l) (W : Wd w mg mb h₀) (G : Lg h₀ L m s.heap (l ++ rest)) (hroom : A.depth < recursionLimit)
    (h : ∀ s' t, Bk s h₀ L m l rest s' l → Q (.int vs.length t) s') : wpAny (model PP w) A (call (.ref 217) [.ref x]) Q E s := by
  obtain ⟨n, hk, tk, tz, k, t1, t2, rfl, ok1, ok2, hl⟩ := ha
  refine call_defAt (binds := [("self", .ref x)]) W G (by k_is) rfl (by k_is) hroom (.of_eq rfl) (by rfl) ?_ (by decide)
  intro g L' h₁ W' kp G' back
  refine ks_wpAt_execs_cons ?_
  refine ks_wpAt_Return_some ?_
  refine ks_wpAt_MethodCall ?_
  refine sup_node W' G' (i := 0) rfl (by k_is) rfl rfl rfl (by k_is) rfl rfl (by decide +kernel) (by k_is) rfl (by decide) rfl rfl rfl rfl (by decide +kernel) fun so h₂ G2 => ?_
  have X2 := W'.X.keeps G2.fr.keep
  have hx2 := G2.get (i := 1) rfl
  refine sup_getm X2 (G2.get (i := 0) rfl) hx2 (by rfl) type_llen slot_wd_get entry_wd_get args_wd_get (fun t A E Q q => wd_get (acc_isi X2 hx2) (.inl rfl) q) (by decide) (acc_ne220 X2 hx2) ?_
  have G3 := G2.alloc (boundO "method-wrapper" "list.__len__" x)
  refine callWith_B0 (.inr rfl) (G3.get (i := 0) rfl) ?_
  refine call_bound (.inr rfl) (G3.get (i := 0) rfl) plain_llen entry_llen (fun A Q E q => chk_llen q) ?_
  refine len_body (G3.get (i := 2) rfl) fun t tk => ⟨_, rfl, ?_⟩
  exact h _ _ (back _ _ _ (G3.drop (.cons _ (.cons _ (.refl _)))) rfl id)
end
end Mine
end
section
open PySem PySem.W PyProof.Rows PySem.Calls PySem.Spec
set_option Elab.async false
set_option maxRecDepth 100000
set_option maxHeartbeats 4000000
set_option pp.maxSteps 3000
namespace Mine
theorem fill9 (w : World) (h₀ : Heap) : (hd.heap_1 w.params).In h₀ → PySem.Challenge.rw_zd0011_01.Holds → True := by k_fill; intros; trivial
section
variable {w : World} {mg mb : Str → Option Value} {A : Around} {s : Shared} {h₀ h : Heap} {L : Addr} {m : Str → Option Value} {l rest news : List (Addr × Obj)} {Q E : Value → Shared → Prop}
theorem Lg.app (G : Lg h₀ L m h l) : Lg h₀ L m h (l ++ []) := by rw [List.append_nil]; exact G
theorem Lg.unapp (G : Lg h₀ L m h (l ++ [])) : Lg h₀ L m h l := by rw [List.append_nil] at G; exact G

theorem eraseLast (vs : List Value) (v : Value) : ((vs ++ [v]).toArray.eraseIdxIfInBounds vs.length).toList = vs := by
  have e : (vs ++ [v]).eraseIdx vs.length = vs := by
    rw [List.eraseIdx_append_of_length_le (Nat.le_refl _)]
    simp
  simp [Array.eraseIdxIfInBounds, e]

theorem pop_body {x d : Addr} {vs : List Value} {v : Value} {n i : Nat} {A : Around} {Q : Fin → Shared → Prop} {E : Value → Shared → Prop} (G : Lg h₀ L m s.heap news) (hi : news[i]? = some (x, accObj d (vs ++ [v]) n)) (hz : vs.length < 1000)
    (h : ∀ h' n', Lg h₀ L m h' (news.set i (x, accObj d vs n')) → Q (.done (.ret v)) { s with heap := h' }) : wpAny (model PP w) A (Builtin.«list.pop» ⟨[.ref x], []⟩) Q E s := by
  have hx := G.get hi
  have hsz : (vs ++ [v]).toArray.size = vs.length + 1 := by simp
  unfold Builtin.«list.pop»
  refine wpAny_bind (wpAny_of_eq (a := (.ref x, [])) (by kernel_rfl) ?_)
  dsimp only
  refine wpAny_bind (wpAny_pure ?_)
  rw [if_neg (by decide +kernel)]
  show wpAny _ _ (seqItems? (.ref x) >>= _ >>= _) _ _ _
  refine wpAny_bind (wpAny_bind (wpAny_seqItems hx rfl (wpAny_pure ?_)))
  have hne : (vs ++ [v]).toArray.isEmpty = false := by simp [Array.isEmpty]
  have hbind : ((seqIndex? (-1) (vs ++ [v]).toArray.size).bind fun k => Option.map (fun x => (k, x)) (vs ++ [v]).toArray[k]?) = some (vs.length, v) := by
    rw [hsz]
    have e : seqIndex? (-1) (vs.length + 1) = some vs.length := by
      unfold seqIndex?
      simp only [show (-1 : Int) < 0 from by decide, if_true]
      have e2 : (-1 : Int) + ((vs.length + 1 : Nat) : Int) = (vs.length : Int) := by omega
      rw [e2]
      simp
      omega
    rw [e]
    simp
  rw [hne, hbind]
  show wpAny _ _ (updateSeq x (fun y => y.eraseIdxIfInBounds vs.length) >>= fun _ => ret v) _ _ _
  refine wpAny_bind (wpAny_updateSeq hx rfl (wpAny_pure ?_) (by rw [hsz, sizeLine_eq]; omega) (by
    have : ((vs ++ [v]).toArray.eraseIdxIfInBounds vs.length).size = vs.length := by rw [← Array.length_toList, eraseLast]
    rw [this, sizeLine_eq]; omega))
  obtain ⟨n', e⟩ := mapSeq_acc d (vs ++ [v]) n (fun y => y.eraseIdxIfInBounds vs.length)
  rw [eraseLast] at e
  refine h _ n' ?_
  have := G.update hi (f := Obj.mapSeq (fun y => y.eraseIdxIfInBounds vs.length)) (by rw [e]; rfl)
  rw [e] at this
  exact this

noncomputable abbrev sigPop : Manifest.Signature := (Manifest.signature? "list.pop").get (by decide +kernel)
theorem sig_pop : Manifest.signature? "list.pop" = some sigPop := (Option.some_get _).symm
theorem kind_pop : builtinKind "list.pop" = some .method := by decide +kernel
theorem sig_pop_a (x : Addr) : Bind.checkArgs "list.pop" { sigPop with full := "pop" } ⟨[.ref x], []⟩ = pure () := by kernel_rfl
theorem sig_pop_b (x : Addr) : Bind.checkArgs "list.pop" { sigPop with full := "_Accumulator.pop" } ⟨[.ref x], []⟩ = pure () := by kernel_rfl
theorem va_pop : Manifest.varargsMethods.contains "list.pop" = false := by decide +kernel
theorem chk_lpop {A : Around} {Q : Unit → Shared → Prop} {E : Value → Shared → Prop} {x d : Addr} {vs : List Value} {n : Nat} (X : (hd.heap_1 w.params).In s.heap) (hx : s.heap.get? x = some (accObj d vs n)) (h : Q () s) : wpAny (model PP w) A (checkBoundCall "list.pop" ⟨[.ref x], []⟩) Q E s := by
  have hm : Looks (model PP w) s.heap (isInstance (.ref x) (.type "module")) false := (acc_type hx).andThen (looks_subIn X (by k_is))
  unfold checkBoundCall
  rw [sig_pop, kind_pop]
  dsimp only
  rw [if_neg (by decide)]
  refine wpAny_bind (hm.here ?_)
  rw [va_pop]
  rw [if_neg (by decide)]
  refine wpAny_bind ?_
  unfold isType
  refine wpAny_bind (wpAny_loadPart hx (wpAny_pure ?_))
  rw [if_neg Bool.false_ne_true]
  refine wpAny_bind ((acc_type hx).here ?_)
  dsimp only
  refine wpAny_bind ((looks_clsIn X (by k_is)).here ?_)
  refine wpAny_bind ((looks_typeIn X (v := .ref 220) (t := .type "type") (by k_is)).here ?_)
  rw [if_pos (by decide +kernel)]
  exact wpAny_of_eq (sig_pop_b _) h

theorem c_pop {x d : Addr} {vs : List Value} {v : Value} (ha : Acc x d (vs ++ [v]) l) (W : Wd w mg mb h₀) (G : Lg h₀ L m s.heap (l ++ rest)) (hroom : A.depth + 1 < recursionLimit)
    (h : ∀ s' l', Acc x d vs l' → Bk s h₀ L m l rest s' l' → Q v s') : wpAny (model PP w) A (call (.ref 180) [.ref x]) Q E s := by
  have ha0 := ha
  obtain ⟨n, hk, tk, tz, k, t1, t2, rfl, ok1, ok2, hl⟩ := ha
  refine call_defAt (binds := [("self", .ref x)]) W G (by k_is) rfl (by k_is) (by omega) (.of_eq rfl) (by rfl) ?_ (by decide)
  intro g L' h₁ W' kp G' back
  refine ks_wpAt_execs_cons ?_
  refine ks_wpAt_If ?_
  refine _root_.PySem.wpAt_of_wpAny (wpAny_isTrue_Compare1 ?_)
  refine MethodCall_ ?_
  refine nameX_L G'.fr rfl ?_
  refine getm_any (W'.X.keeps G'.fr.keep) (accInst (G'.get (i := 0) rfl) (G'.get (i := 1) rfl)) (by k_is) (by decide +kernel) (by k_is) (by k_is) (by k_is) (by rfl) (by rfl) ?_
  refine callWith_K0 (W'.X.keeps G'.fr.keep) (by k_is) ?_
  refine c_pc (rest := []) ha0 W' G'.app (by show A.depth + 1 < _; omega) fun s2 t B2 => ?_
  have G2 := B2.lg.unapp
  refine wpAny_Constant_int ?_
  refine PyProof.Rows.eq_int ?_
  refine wpAny_truthy_bool ?_
  rw [show ((((vs ++ [v]).length : Nat) : Int) == 0) = false from by simp; omega]
  rw [if_neg (by decide)]
  refine _root_.PySem.wpAt_of_wpAny (wpAny_execs_nil ?_)
  dsimp only
  refine ks_wpAt_execs_cons ?_
  refine ks_wpAt_Return_some ?_
  refine ks_wpAt_MethodCall ?_
  refine sup_node W' G2 (i := 0) rfl (by k_is) rfl rfl rfl (by k_is) rfl rfl (by decide +kernel) (by k_is) rfl (by decide) rfl rfl rfl rfl (by decide +kernel) fun so h₂ G3 => ?_
  have X3 := W'.X.keeps G3.fr.keep
  have hx3 := G3.get (i := 1) rfl
  refine sup_getm X3 (G3.get (i := 0) rfl) hx3 (by rfl) type_lpop slot_md_get entry_md_get args_md_get (fun t A E Q q => md_get_pop (acc_isi X3 hx3) q) (by decide) (acc_ne220 X3 hx3) ?_
  have G4 := G3.alloc (boundO "builtin_function_or_method" "list.pop" x)
  refine callWith_B0 (.inl rfl) (G4.get (i := 0) rfl) ?_
  have X4 := W'.X.keeps G4.fr.keep
  refine call_bound (.inl rfl) (G4.get (i := 0) rfl) plain_lpop entry_lpop (fun A Q E q => chk_lpop X4 (G4.get (i := 2) rfl) q) ?_
  refine pop_body G4 (i := 2) rfl (by simp at hl; omega) fun h' n' G5 => ⟨_, rfl, ?_⟩
  exact h _ _ ⟨_, _, _, _, _, _, _, rfl, ok1, ok2, by simp at hl; omega⟩ (back _ _ _ (G5.drop (.cons _ (.cons _ (.refl _)))) B2.os B2.gn)
end
end Mine
end
section
open PySem PySem.W PyProof.Rows PySem.Calls PySem.Spec Builtin Builtin.ObjectAttr
set_option Elab.async false
set_option maxRecDepth 100000
set_option maxHeartbeats 4000000
set_option pp.maxSteps 3000
namespace Mine
theorem fill10 (w : World) (h₀ : Heap) : (hd.heap_1 w.params).In h₀ → PySem.Challenge.rw_zd0011_01.Holds → True := by k_fill; intros; trivial
theorem refuse_list (self : Value) : refuseLoop self "__setattr__" [.ref 220, .type "list", .type "object"] = pure () := by
  rw [refuseLoop_ref]
  kernel_rfl
theorem notRef_isz {es : List DictEntry} {name : Str} : (es.any (·.refKey)) = false → (!es.any (·.key.isStr name) && es.any (·.refKey)) = false := fun h => by rw [h, Bool.and_false]
section
variable {w : World} {mg mb : Str → Option Value} {A : Around} {s : Shared} {h₀ h : Heap} {L : Addr} {m : Str → Option Value} {l rest news : List (Addr × Obj)}

theorem set_acc {x d : Addr} {vs : List Value} {n k i j : Nat} {es es' : List DictEntry} {k' : Nat} {v : Value} {name : Str} {E : Value → Shared → Prop} {Q : Unit → Shared → Prop} (W : Wd w mg mb h₀) (G : Lg h₀ L m s.heap news) (hi : news[i]? = some (x, accObj d vs n)) (hj : news[j]? = some (d, dictOf es k))
    (ht : takerIn (hd.heap_1 w.params) 220 name = some none) (hr : es.any (·.refKey) = false)
    (e : (putL name (PyData.keyHash w.params name) (.str name (s.toks + 1)) v es, putN name es k) = (es', k')) (hz : es'.length ≤ 1000)
    (h : ∀ h', Lg h₀ L m h' (news.set j (d, dictOf es' k')) → Q () { s with heap := h', toks := s.toks + 2 }) : wpAny (model PP w) A (setAttr (.ref x) name v) Q E s := by
  have SF := PySem.F.store_object
  obtain ⟨hh, g, dr, t, os⟩ := s
  dsimp only at G e h
  have X := W.X.keeps G.fr.keep
  have hx := G.get hi
  have D := G.get hj
  have I := accInst hx D
  obtain ⟨e1, e2⟩ := Prod.mk.inj e
  refine set_plain X I (by k_is) ?_
  have sub : Looks (model PP w) hh (isInstance (.ref x) (.type "object")) true := I.type.andThen (looks_subIn X (by k_is))
  refine codeAny_call_builtin SF.slot.plain SF.entry (@check_slot (model PP w) _ _ ⟨hh, g, dr, t + 1, os⟩ "object.__setattr__" "object" "__setattr__" (.ref x) [.str name _, v] [] _ SF.kind SF.split sub (SF.args (.ref x) (.str name _) v) ?_)
  obtain ⟨attr, ha, hr2⟩ := Option.bind_eq_some_iff.mp ht
  have hm : Looks (model PP w) hh (mroOf (.ref 220)) [.ref 220, .type "list", .type "object"] := (looks_clsIn X (C := 220) (by k_is)).andThen .now
  have L3 : Looks (model PP w) hh (storeTaker? attr) none := by
    cases attr with
    | none => exact .now
    | some a =>
      obtain ⟨b, hb, q⟩ := Option.map_eq_some_iff.mp hr2
      refine (looks_takesIn X hb).andThen ?_
      cases b
      · exact .now
      · cases q
  rw [osa_eq, refuse_eq]
  refine wpAny_bind (wpAny_bind (I.type.here (wpAny_bind (hm.here ?_))))
  rw [refuse_list]
  refine wpAny_pure (wpAny_bind (I.type.here (wpAny_bind ((looks_findIn X ha).here (wpAny_bind (L3.here ?_))))))
  dsimp only
  unfold storeInOwnDict
  refine wpAny_bind (wpAny_pure (wpAny_bind (wpAny_bind (wpAny_loadPart hx (wpAny_bind ((looks_clsIn X (C := 220) (by k_is)).here ?_))))))
  refine wpAny_pure (a := some d) (wpAny_bind (wpAny_pure (wpAny_bind ?_)))
  unfold nsSet
  refine wpAny_bind (wpAny_bind (wpAny_askSetting (wpAny_pure (wpAny_bind (wpAny_mkText (wpAny_bind (wpAny_loadPart D ?_)))))))
  have c : (!es.toArray.any (·.key.isStr name) && es.toArray.any (·.refKey)) = false := by
    rw [← Array.any_toList, ← Array.any_toList]; exact notRef_isz hr
  dsimp only
  rw [aRefKeyMayBeTheName_at, c]
  refine wpAny_updatePart D ?_
  have hp : Obj.putName name (PyData.keyHash w.params name) (.str name (t + 1)) v (dictOf es k) = dictOf es' k' := by rw [putName_dict, e1, e2]
  have G2 := G.update hj (f := Obj.putName name (PyData.keyHash w.params name) (.str name (t + 1)) v) (by rw [hp]; rfl)
  rw [hp] at G2
  have D' : (hh.update d (Obj.putName name (PyData.keyHash w.params name) (.str name (t + 1)) v)).get? d = some (dictOf es' k') := by
    have := Heap.get?_update_self (Obj.putName name (PyData.keyHash w.params name) (.str name (t + 1)) v) D (by rw [hp]; rfl)
    rw [this, hp]
  refine wpAny_bind (wpAny_lookBehind D' (pastItsLine_dict (by rw [List.size_toArray, sizeLine_eq]; omega)) ?_)
  exact wpAny_pure (h _ G2)

theorem init_body {x d : Addr} {n i : Nat} {A : Around} {Q : Fin → Shared → Prop} {E : Value → Shared → Prop} (G : Lg h₀ L m s.heap news) (hi : news[i]? = some (x, accObj d [] n))
    (h : ∀ h' n', Lg h₀ L m h' (news.set i (x, accObj d [] n')) → Q (.done (.ret .none)) { s with heap := h' }) : wpAny (model PP w) A (Builtin.«list.__init__» ⟨[.ref x], []⟩) Q E s := by
  have hx := G.get hi
  unfold Builtin.«list.__init__»
  dsimp only
  rw [if_neg (by decide), if_neg (by decide)]
  unfold Builtin.List.listItems
  refine wpAny_bind (wpAny_bind (wpAny_seqItems hx rfl (wpAny_pure ?_)))
  show wpAny _ _ (updateSeq x (fun _ => #[]) >>= _) _ _ _
  refine wpAny_bind (wpAny_updateSeq hx rfl ?_ (by rw [sizeLine_eq]; simp) (by rw [sizeLine_eq]; simp))
  obtain ⟨n', e⟩ := mapSeq_acc d [] n (fun _ => #[])
  have G2 := G.update hi (f := Obj.mapSeq (fun _ => #[])) (by rw [e]; rfl)
  rw [e] at G2
  exact wpAny_bind (wpAny_pure (wpAny_pure (h _ n' G2)))

theorem c_init {x d : Addr} {n k : Nat} {tz : Tok} {t1 t2 : List Value} {R : Result → Shared → Prop} (hsz : l = [(x, accObj d [] n), (d, dictOf [] k), (182, tabO t1), (189, tabO t2)]) (ok1 : TriplesOk t1) (ok2 : TriplesOk t2)
    (W : Wd w mg mb h₀) (G : Lg h₀ L m s.heap (l ++ rest)) (hroom : A.depth + 1 < recursionLimit)
    (h : ∀ s' l', Acc x d [] l' → Bk s h₀ L m l rest s' l' → R (.ok (.ret .none)) s') : codeAny (model PP w) A (.call (.ref 157) ⟨[.ref x, .int 0 tz], []⟩) R s := by
  subst hsz
  refine code_defAt (binds := [("self", .ref x), ("initial_size", .int 0 tz)]) W G (by k_is) rfl (by k_is) (by omega) (binds_K (W.X.keeps G.fr.keep) rfl (by k_is) rfl rfl rfl) (by rfl) ?_ (by decide)
  intro g L' h₁ W' kp G' back
  refine ks_wpAt_execs_cons ?_
  refine ks_wpAt_Assign_Attr ?_
  refine _root_.PySem.wpAt_of_wpAny ?_
  refine nameX_L G'.fr rfl ?_
  refine nameX_L G'.fr rfl ?_
  refine set_acc W' G' (i := 0) (j := 1) rfl rfl (by k_is) rfl rfl (by simp [putL]) fun h' G2 => ?_
  refine ks_wpAt_execs_cons ?_
  refine ks_wpAt_Expr_any ?_
  refine ks_wpAt_MethodCall ?_
  refine sup_node W' G2 (i := 0) rfl (by k_is) rfl rfl rfl (by k_is) rfl rfl (by decide +kernel) (by k_is) rfl (by decide) rfl rfl rfl rfl (by decide +kernel) fun so h₂ G3 => ?_
  have X3 := W'.X.keeps G3.fr.keep
  have hx3 := G3.get (i := 1) rfl
  refine sup_getm X3 (G3.get (i := 0) rfl) hx3 (by rfl) type_linit slot_wd_get entry_wd_get args_wd_get (fun t A E Q q => wd_get (acc_isi X3 hx3) (.inr rfl) q) (by decide) (acc_ne220 X3 hx3) ?_
  have G4 := G3.alloc (boundO "method-wrapper" "list.__init__" x)
  refine callWith_B0 (.inr rfl) (G4.get (i := 0) rfl) ?_
  refine call_bound (.inr rfl) (G4.get (i := 0) rfl) plain_linit entry_linit (fun A Q E q => chk_linit q) ?_
  refine init_body G4 (i := 2) rfl fun h' n' G5 => ⟨_, rfl, ?_⟩
  refine _root_.PySem.wpAt_of_wpAny (wpAny_execs_nil ?_)
  exact h _ _ ⟨_, _, _, _, _, _, _, rfl, ok1, ok2, by simp⟩ (back _ _ _ (G5.drop (.cons _ (.cons _ (.refl _)))) rfl id)
end
end Mine
end
section
open PySem PySem.W PyProof.Rows PySem.Calls PySem.Spec Builtin Builtin.ObjectAttr
set_option Elab.async false
set_option maxRecDepth 100000
set_option maxHeartbeats 4000000
set_option pp.maxSteps 6000
namespace Mine
theorem fill11 (w : World) (h₀ : Heap) : (hd.heap_1 w.params).In h₀ → PySem.Challenge.rw_zd0011_01.Holds → True := by k_fill; intros; trivial
section
variable {w : World} {mg mb : Str → Option Value} {A : Around} {s : Shared} {h₀ h : Heap} {L : Addr} {m : Str → Option Value} {l rest news : List (Addr × Obj)}
noncomputable abbrev emptyAcc (d : Addr) : Obj := { cls := .ref 220, dict := some d, data := .seq #[] }

theorem made220 {M : Model} (X : (hd.heap_1 w.params).In h) : Looks M h (Bind.madeBy (.ref 220)) (some "list.__new__") := by
  intro A Q E s k q
  have hm : Looks M h (mroOf (.ref 220)) [.ref 220, .type "list", .type "object"] := (looks_clsIn X (C := 220) (by k_is)).andThen .now
  unfold Bind.madeBy
  refine wpAny_bind (hm A _ E s k ?_)
  rw [List.forIn_cons]
  refine wpAny_bind (wpAny_bind (wpAny_bind (wpAny_bind (wpAny_loadPart (k _ _ (X 220 _ (by k_is))) (wpAny_pure ?_)))))
  exact wpAny_pure (wpAny_pure (wpAny_pure q))
theorem base220 {M : Model} (X : (hd.heap_1 w.params).In h) : Looks M h (Bind.staticBase (.ref 220)) (.ref 220) := by
  intro A Q E s k q
  have hm : Looks M h (mroOf (.ref 220)) [.ref 220, .type "list", .type "object"] := (looks_clsIn X (C := 220) (by k_is)).andThen .now
  unfold Bind.staticBase
  refine wpAny_bind (hm A _ E s k ?_)
  rw [List.forIn_cons]
  exact wpAny_bind (wpAny_bind (wpAny_bind (made220 X A _ E s k (wpAny_pure (wpAny_pure (wpAny_pure q))))))

theorem kind_ln : builtinKind "list.__new__" = some .builtinFn := by decide +kernel
theorem split_ln : splitId "list.__new__" = some ("list", "__new__") := by decide +kernel
noncomputable abbrev sigLn : Option Manifest.Signature := Manifest.signature? "list.__new__"
theorem args_ln (a b : Value) : argsOk "list.__new__" ⟨[a, b], []⟩ := by unfold argsOk; kernel_rfl

theorem new_acc {v : Value} {R : Result → Shared → Prop} {g : Array GenState} {d : Drawn} {t : Nat} {os : OsState} (X : (hd.heap_1 w.params).In h)
    (hq : R (.ok (.ret (.ref (h.objs.size + 1)))) ⟨(h.push emptyDict).push (emptyAcc h.objs.size), g, d, t, os⟩) :
    codeAny (model PP w) A (.call (.builtin "list.__new__") ⟨[.ref 220, v], []⟩) R ⟨h, g, d, t, os⟩ := by
  have base := base220 (M := model PP w) X
  have made := made220 (M := model PP w) X
  have hC := X 220 _ (by k_is)
  have sub : Looks (model PP w) h (isSubtype (.ref 220) (.type "list")) true := looks_subIn X (by k_is)
  refine codeAny_call_builtin_code (Code.quiet_builtin _ (by decide +kernel)) ?_
  simp only [checkBuiltinCall, kind_ln, split_ln]
  have args := args_ln (.ref 220) v
  unfold argsOk at args
  repeat lk
  refine codeAny_builtin_stack PySem.F.entry_list_new rfl fun p st => ?_
  rw [Around.under_plainId PySem.F.plain_list_new _]
  dsimp only
  rw [owner_list_new]
  have e1 : (!("list" == "list")) = false := by decide
  repeat lk
  refine wpAny_load (Heap.get?_push_of_some _ (Heap.get?_push_of_some _ hC)) (wpAny_pure ?_)
  refine wpAny_pure (wpAny_pure ?_)
  show R _ _
  rw [Heap.size_push]
  exact hq

theorem mk_acc {t1 t2 : List Value} {tz : Tok} {Q E : Value → Shared → Prop} (ok1 : TriplesOk t1) (ok2 : TriplesOk t2)
    (W : Wd w mg mb h₀) (G : Lg h₀ L m s.heap ([(182, tabO t1), (189, tabO t2)] ++ rest)) (hroom : A.depth + 4 < recursionLimit)
    (h : ∀ x d s' l', Acc x d [] l' → Bk s h₀ L m [(182, tabO t1), (189, tabO t2)] rest s' l' → s.heap.objs.size ≤ d → s.heap.objs.size ≤ x → Q (.ref x) s') : wpAny (model PP w) A (call (.ref 220) [.int 0 tz]) Q E s := by
  obtain ⟨hh, g, dr, t, os⟩ := s
  dsimp only at G h
  have X := W.X.keeps G.fr.keep
  have hC := X 220 _ (by k_is)
  have callm : Looks (model PP w) hh (specialOf (.ref 220) "__call__") (some (.builtin "type.__call__")) := looks_specialIn X (by k_is)
  have typ : Looks (model PP w) hh (isInstance (.ref 220) (.type "type")) true := looks_instIn X (by k_is)
  have hi : Looks (model PP w) hh (typeLookup (.ref 220) "__init__") (some (.ref 157)) := looks_findIn X (by k_is)
  have self : Looks (model PP w) hh (isSubtype (.ref 220) (.ref 220)) true := looks_subIn X (by k_is)
  have made := made220 (M := model PP w) X
  refine wpAny_call (codeAny_of_tree ?_)
  show wpAny _ _ (callAny (.ref 220) _) _ _ _
  refine nd_load hC ?_
  show wpAny _ _ (callAny.viaDunder (.ref 220) _) _ _ _
  unfold callAny.viaDunder
  refine wpAny_bind (callm.at ?_)
  dsimp only
  rw [tc_bind]
  refine wpAny_bind (wpAny_pure (wpAny_bind (wpAny_pure ?_)))
  refine wpAny_pure (a := Fin.again (.call (.builtin "type.__call__") ⟨[.ref 220, .int 0 tz], []⟩)) (And.intro rfl ?_)
  refine codeAny_call_builtin_at (Code.quiet_builtin _ (by decide +kernel)) entry_typeCall (check_slot tc_kind tc_split typ (tc_args _ _ _) ?_)
  unfold Builtin.«type.__call__»
  have hm : Looks (model PP w) hh (mroOf (.ref 220)) [.ref 220, .type "list", .type "object"] := (looks_clsIn X (C := 220) (by k_is)).andThen .now
  have e4 : ([.ref 220, .type "list", .type "object"] : List Value).isEmpty = false := rfl
  repeat (first | simp only [e4, Bool.false_eq_true, if_false] | with_reducible refine wpAny_call ?_ | lk)
  refine new_acc X ?_
  have k : ∀ b o, hh.get? b = some o → ((hh.push emptyDict).push (emptyAcc hh.objs.size)).get? b = some o := fun b o e => Heap.get?_push_of_some _ (Heap.get?_push_of_some _ e)
  have hx : ((hh.push emptyDict).push (emptyAcc hh.objs.size)).get? (hh.objs.size + 1) = some (emptyAcc hh.objs.size) := by heap_get
  have t1 : Looks (model PP w) ((hh.push emptyDict).push (emptyAcc hh.objs.size)) (typeOf (.ref (hh.objs.size + 1))) (.ref 220) := (Looks.ld hx).andThen .now
  have s1 := self.keeps k
  have i1 := hi.keeps k
  have b1 : Looks (model PP w) ((hh.push emptyDict).push (emptyAcc hh.objs.size)) (bindSpecial (.ref 157) (.ref (hh.objs.size + 1))) (.ref 157, [.ref (hh.objs.size + 1)]) := bind_fn (X.keeps k) _ (by k_is)
  unfold isInstance callSpecial? specialOf
  repeat (first | with_reducible refine wpAny_call ?_ | lk)
  have G1 := (G.alloc emptyDict).alloc (emptyAcc hh.objs.size)
  rw [Heap.size_push] at G1
  refine c_init (l := [(hh.objs.size + 1, emptyAcc hh.objs.size), (hh.objs.size, emptyDict), (182, tabO _), (189, tabO _)]) (k := 0) (n := 0) rfl ok1 ok2 W G1 (by show A.depth + 1 + 1 < _; omega) fun s' l' ha B => ?_
  refine wpAny_pure (wpAny_pure ?_)
  refine h _ _ _ _ ha ⟨B.lg, fun b o e q => B.kp b o (k b o e) ?_, B.os, B.gn⟩ (Nat.le_refl _) (Nat.le_succ _)
  have := Heap.lt_size e
  simp only [List.map_cons, List.map_nil, List.mem_cons, List.not_mem_nil, or_false, not_or] at q ⊢
  exact ⟨Nat.ne_of_lt (Nat.lt_succ_of_lt this), Nat.ne_of_lt this, q.1, q.2⟩
end
end Mine
end
section
open PySem PySem.W PyProof.Rows PySem.Calls PySem.Spec Builtin Builtin.ObjectAttr
set_option Elab.async false
set_option maxRecDepth 100000
set_option maxHeartbeats 4000000
set_option pp.maxSteps 6000
namespace Mine
theorem fill12 (w : World) (h₀ : Heap) : (hd.heap_1 w.params).In h₀ → PySem.Challenge.rw_zd0011_01.Holds → True := by k_fill; intros; trivial

noncomputable def SeqAt (h : Heap) (a : Addr) (vs : List Value) : Prop := ∃ o n, h.get? a = some o ∧ o.data = .seq vs.toArray n
theorem SeqAt.at {h h' : Heap} {a : Addr} {vs : List Value} (x : SeqAt h a vs) (k : ∀ o, h.get? a = some o → h'.get? a = some o) : SeqAt h' a vs := let ⟨o, n, e, r⟩ := x; ⟨o, n, k _ e, r⟩

section
variable {w : World} {A : Around} {E : Value → Shared → Prop} {s : Shared}
theorem nextItem {it l : Addr} {i : Nat} {vs : List Value} {x : Value} {Q : Option Value → Shared → Prop} (hit : s.heap.IsListIter it l i) (hl : SeqAt s.heap l vs) (hx : vs[i]? = some x)
    (hQ : ∀ h', h'.IsListIter it l (i + 1) → Heap.SameBut it s.heap h' → Q (some x) { s with heap := h' }) : wpAny (model PP w) A (pyNext (.ref it)) Q E s := by
  obtain ⟨o, ho, hc, hd⟩ := id hit
  obtain ⟨ol, nl, hol, hdl⟩ := hl
  unfold pyNext
  refine wpAny_bind (wpAny_attempt (wpAny_callSpecial?_slot (name := Str.ofString "__next__") hit.typeIs slot_listiter_next (wpAny_call_entry slot_listiter_next hit.typeIs entry_listiter_next ?_ (args_listiter_next _))))
  show wpAny _ _ (field (.ref it) 0 >>= _) _ _ s
  refine wpAny_bind (wpAny_field ho hd (x := .ref l) rfl ?_)
  show wpAny _ _ (if (Value.ref l == Value.none) = true then _ else _) _ _ s
  rw [if_neg (show ¬ ((Value.ref l == Value.none) = true) from Bool.false_ne_true)]
  show wpAny _ _ (field (.ref it) 1 >>= _) _ _ s
  refine wpAny_bind (wpAny_field ho hd (x := .int i 0) rfl ?_)
  show wpAny _ _ (seqItems? (.ref l) >>= _) _ _ s
  refine wpAny_bind (wpAny_seqItems hol hdl ?_)
  have hx' : vs.toArray[i]? = some x := by simpa using hx
  simp only [Int.toNat_natCast, hx']
  refine wpAny_bind (wpAny_setField ho hd (by simp) (wpAny_pure ⟨x, rfl, wpAny_pure (hQ _ ?_ (Heap.SameBut.update ..))⟩))
  exact ⟨_, Heap.get?_update_self _ ho (Obj.isFreed_of_fields (Obj.data_mapFields hd _)), (Obj.cls_mapFields ..).trans hc, by
    rw [Obj.data_mapFields hd]; simp [rawInt]⟩

theorem nextEnd {it l : Addr} {i : Nat} {vs : List Value} {Q : Option Value → Shared → Prop} (hh : A.handled = none) (hit : s.heap.IsListIter it l i) (hl : SeqAt s.heap l vs) (hx : vs[i]? = none)
    (hQ : ∀ h', Heap.ExtBut it s.heap h' → Q none { s with heap := h' }) : wpAny (model PP w) A (pyNext (.ref it)) Q E s := by
  obtain ⟨o, ho, hc, hd⟩ := id hit
  obtain ⟨ol, nl, hol, hdl⟩ := hl
  unfold pyNext
  refine wpAny_bind (wpAny_attempt (wpAny_callSpecial?_slot (name := Str.ofString "__next__") hit.typeIs slot_listiter_next (wpAny_call_entry slot_listiter_next hit.typeIs entry_listiter_next ?_ (args_listiter_next _))))
  show wpAny _ _ (field (.ref it) 0 >>= _) _ _ s
  refine wpAny_bind (wpAny_field ho hd (x := .ref l) rfl ?_)
  show wpAny _ _ (if (Value.ref l == Value.none) = true then _ else _) _ _ s
  rw [if_neg (show ¬ ((Value.ref l == Value.none) = true) from Bool.false_ne_true)]
  show wpAny _ _ (field (.ref it) 1 >>= _) _ _ s
  refine wpAny_bind (wpAny_field ho hd (x := .int i 0) rfl ?_)
  show wpAny _ _ (seqItems? (.ref l) >>= _) _ _ s
  refine wpAny_bind (wpAny_seqItems hol hdl ?_)
  have hx' : vs.toArray[i]? = none := by simpa using hx
  simp only [Int.toNat_natCast, hx']
  refine wpAny_bind (wpAny_rule (wpAny_bind (wpAny_setField ho hd (by simp) ?_)))
  show wpAny _ _ (newExc (.type "StopIteration") [] >>= _) _ _ _
  refine wpAny_bind ?_
  simp only [newExc, newTuple]
  refine wpAny_bind (wpAny_newObj_type ?_ (by size_fits))
  refine wpAny_bind (m := firstArgMember _ _) (wpAny_of_eq (a := Value.none) (by first | rfl | (simp only [firstArgMember]; rfl)) ?_)
  refine wpAny_newObj_type ?_ (by size_fits)
  simp only [raiseNew]
  refine wpAny_bind (wpAny_handled ?_)
  rw [show A.in1.handled = none from hh]
  refine wpAny_bind (wpAny_pure (wpAny_throw ?_))
  refine wpAny_bind (wpAny_isInstance (T := "StopIteration") (b := true) ⟨_, Heap.get?_push_size _ rfl, rfl⟩ isSubtype_stop ?_)
  exact wpAny_pure (hQ _ (((Heap.SameBut.update ..).extBut.push _).push _))

/-- the walk over a list, of whatever class, whose items are pairs -/
theorem walkPairs (hh : A.handled = none) (I a : Addr) (hne : a ≠ I) (vs : List Value) (Ts : Nat → Addr) (vals : Nat → Array Value)
    (hit : ∀ j, j < vs.length → vs[j]? = some (.ref (Ts j))) (hTI : ∀ j, j < vs.length → Ts j ≠ I) :
    WalksU PP w A I (I :: a :: (List.range vs.length).map Ts) [I] vs.length (fun j v => j < vs.length ∧ v = vals j)
      (fun j h => h.IsListIter I a j ∧ SeqAt h a vs ∧ ∀ k, k < vs.length → h.IsTuple (Ts k) (vals k))
      (fun j T h => (j < vs.length ∧ T = Ts j) ∧ h.IsListIter I a (j + 1) ∧ SeqAt h a vs ∧ ∀ k, k < vs.length → h.IsTuple (Ts k) (vals k)) where
  sub := fun b hb => by simp at hb; simp [hb]
  frame := fun _ _ _ st hk => ⟨st.1.at fun o e => hk I (by simp) o e, st.2.1.at fun o e => hk a (by simp) o e,
    fun k hk' => (st.2.2 k hk').at fun o e => hk (Ts k) (List.mem_cons_of_mem _ (List.mem_cons_of_mem _ (List.mem_map.mpr ⟨k, List.mem_range.mpr hk', rfl⟩))) o e⟩
  item := fun i s Q E hi st hQ => by
    refine nextItem st.1 st.2.1 (hit i hi) fun h' hit' hs' => ?_
    have tup : ∀ k, k < vs.length → h'.IsTuple (Ts k) (vals k) := fun k hk' => (st.2.2 k hk').extBut hs'.extBut (hTI k hk')
    exact hQ (Ts i) (vals i) h' s.toks ⟨hi, rfl⟩ (tup i hi) ⟨⟨hi, rfl⟩, hit', st.2.1.at fun o e => hs'.extBut a o hne e, tup⟩ fun b o hb e => hs'.extBut b o (fun h => hb (by simp [h])) e
  go := fun _ _ _ _ _ s Q _ hm hQ => wpAny_letOwnedTupleGo_listiter hm.2.1 (hQ s.heap hm.2 fun _ _ _ e => e)
  apart := fun j T _ hm hmem => by
    rcases List.mem_cons.mp hmem with e | e
    · exact hTI j hm.1.1 (hm.1.2 ▸ e)
    · cases e
  done := fun s Q E st hQ => nextEnd hh st.1 st.2.1 (by simp) fun h' he' => hQ h' s.toks fun b o hb e => he' b o (fun h => hb (by simp [h])) e
  self := fun _ _ _ _ st hQ => wpAny_pyIter_listiter st.1 hQ

theorem isSlot_iter : Slot "list" "__iter__" "list.__iter__" := slot_list_iter
noncomputable abbrev iterO (a : Addr) : Obj := { cls := .type "list_iterator", data := .fields #[.ref a, .int 0 0] }
theorem accIter {x d : Addr} {vs : List Value} {n : Nat} {Q : Value → Shared → Prop} (X : (hd.heap_1 w.params).In s.heap) (hx : s.heap.get? x = some (accObj d vs n))
    (hQ : Q (.ref s.heap.objs.size) { s with heap := s.heap.push (iterO x) }) : wpAny (model PP w) A (pyIter (.ref x)) Q E s := by
  have ht := acc_type (M := model PP w) hx
  have hf : Looks (model PP w) s.heap (typeLookup (.ref 220) "__iter__") (some (.builtin "list.__iter__")) := looks_findIn X (by k_is)
  have hb := isSlot_iter.bind (.ref x)
  unfold pyIter specialOf
  refine wpAny_bind (wpAny_bind (ht.here (hf.here ?_)))
  dsimp only
  refine wpAny_bind ?_
  unfold callSpecialIfBoundUnlessNone? bindSpecialIfBound? specialOf
  refine wpAny_holding (wpAny_bind (wpAny_bind (wpAny_bind (ht.here (hf.here ?_)))))
  dsimp only
  have key : ∀ (A : Around) (E : Value → Shared → Prop), wpAny (model PP w) A (call (.builtin "list.__iter__") [.ref x]) (fun v s' => v = .ref s.heap.objs.size ∧ s' = { s with heap := s.heap.push (iterO x) }) E s := fun A E => by
    refine call_slot (i := "list.__iter__") (owner := "list") (n := "__iter__") (by decide +kernel) (by decide +kernel) (by decide +kernel) entry_list_iter (acc_isi X hx) (args_list_iter _) ?_
    show wpAny _ _ (do ret (← newFields "list_iterator" [.ref x, rawInt 0])) _ _ s
    exact wpAny_bind (wpAny_newObj_type (wpAny_pure ⟨_, rfl, rfl, rfl⟩))
  refine wpAny_bind (wpAny_askSetting ?_)
  have fin : wpAny (model PP w) A (call (.builtin "list.__iter__") [.ref x]) (fun v s' => v = .ref s.heap.objs.size ∧ s' = { s with heap := s.heap.push (iterO x) }) E s := key A E
  have nx : ∀ s' : Shared, s' = { s with heap := s.heap.push (iterO x) } → s'.TypeIs (.ref s.heap.objs.size) "list_iterator" := fun s' e => by subst e; exact ⟨_, Heap.get?_push_size _ rfl, rfl⟩
  split
  · rw [hb]
    refine wpAny_bind (wpAny_pure (wpAny_pure ?_))
    dsimp only
    rw [if_neg (by decide)]
    refine wpAny_bind (wpAny_mono fin (fun v s' hv => ?_) fun _ _ e => e)
    obtain ⟨rfl, hs⟩ := hv
    refine wpAny_pure ?_
    dsimp only
    refine wpAny_bind (wpAny_bind (wpAny_typeOf (nx s' hs) (wpAny_of_eq slot_listiter_next.lookup ?_)))
    subst hs
    exact wpAny_pure hQ
  · rw [hb]
    refine wpAny_tryCatch (wpAny_bind (wpAny_pure (wpAny_pure ?_)))
    dsimp only
    rw [if_neg (by decide)]
    refine wpAny_bind (wpAny_mono fin (fun v s' hv => ?_) fun _ _ e => e)
    obtain ⟨rfl, hs⟩ := hv
    refine wpAny_pure ?_
    dsimp only
    refine wpAny_bind (wpAny_bind (wpAny_typeOf (nx s' hs) (wpAny_of_eq slot_listiter_next.lookup ?_)))
    subst hs
    exact wpAny_pure hQ
end
end Mine
end
section
open PySem PySem.W PyProof.Rows PySem.Calls PySem.Spec Builtin Builtin.ObjectAttr
set_option Elab.async false
set_option maxRecDepth 100000
set_option maxHeartbeats 4000000
set_option pp.maxSteps 6000
namespace Mine
theorem fill13 (w : World) (h₀ : Heap) : (hd.heap_1 w.params).In h₀ → PySem.Challenge.rw_zd0011_01.Holds → True := by k_fill; intros; trivial

noncomputable abbrev Ent := Str × Str
noncomputable def Ents (h : Heap) (vs : List Value) (es : List Ent) : Prop := vs.length = es.length ∧ ∀ (i : Nat) (e : Ent), es[i]? = some e → ∃ t tf tp, vs[i]? = some (.ref t) ∧ h.get? t = some (tupObj [.str e.1 tf, .str e.2 tp])
theorem Ents.keep {h h' : Heap} {vs : List Value} {es : List Ent} (x : Ents h vs es) (k : ∀ t vs, h.get? t = some (tupObj vs) → h'.get? t = some (tupObj vs)) : Ents h' vs es :=
  ⟨x.1, fun i e q => let ⟨t, tf, tp, a, b⟩ := x.2 i e q; ⟨t, tf, tp, a, k _ _ b⟩⟩
noncomputable def tsOf (vs : List Value) (j : Nat) : Addr := match vs[j]? with | some (.ref t) => t | _ => 0
noncomputable def valsOf (h : Heap) (vs : List Value) (j : Nat) : Array Value := match h.get? (tsOf vs j) with | some ⟨_, _, .seq a _, _⟩ => a | _ => #[]
theorem Ents.at {h : Heap} {vs : List Value} {es : List Ent} (x : Ents h vs es) {j : Nat} (hj : j < vs.length) :
    ∃ f p tf tp, es[j]? = some (f, p) ∧ vs[j]? = some (.ref (tsOf vs j)) ∧ h.get? (tsOf vs j) = some (tupObj [.str f tf, .str p tp]) ∧ valsOf h vs j = #[.str f tf, .str p tp] := by
  have hl : j < es.length := x.1 ▸ hj
  obtain ⟨t, tf, tp, a, b⟩ := x.2 j es[j] (List.getElem?_eq_getElem hl)
  have e : tsOf vs j = t := by unfold tsOf; rw [a]
  refine ⟨es[j].1, es[j].2, tf, tp, List.getElem?_eq_getElem hl, by rw [e]; exact a, by rw [e]; exact b, ?_⟩
  unfold valsOf
  rw [e, b]

theorem passing_all {n i j : Nat} (h : (passing (fun _ => true) n 0)[j]? = some i) : i = j ∧ j < n := by
  unfold passing at h
  rw [List.drop_zero, List.filter_eq_self.mpr (fun _ _ => rfl)] at h
  obtain ⟨a, b⟩ := List.getElem?_eq_some_iff.mp h
  simp at a b
  exact ⟨b.symm, a⟩
theorem Gen.weak {prog : Program} {w : World} {A : Around} {K a : Addr} {n n' : Nat} {F F' : Nat → Value → Prop} {s : Shared} (X : Gen prog w A K a n F s) (e : n = n') (hF : ∀ j y, F j y → F' j y) : Gen prog w A K a n' F' s := by
  subst e
  obtain ⟨fp, wr, g, St, W, h1, h2, h3, h4, h5⟩ := X
  exact ⟨fp, wr, g, St, ⟨W.sub, W.grefl, W.gtrans, W.frame, fun i s Q E hi st hQ => W.item i s Q E hi st fun v s' hP => hQ v s' (hF _ _ hP), W.done, W.self⟩, h1, h2, h3, h4, h5⟩
theorem passing_len (n : Nat) : (passing (fun _ => true) n 0).length = n := by
  unfold passing
  rw [List.drop_zero, List.filter_eq_self.mpr (fun _ _ => rfl), List.length_range]

section
variable {w : World} {mg mb : Str → Option Value} {A : Around} {s : Shared} {h₀ h : Heap} {L : Addr} {m : Str → Option Value} {news : List (Addr × Obj)}
theorem Lg.ext (G : Lg h₀ L m h news) {h' : Heap} (k : ∀ b o, h.get? b = some o → h'.get? b = some o) : Lg h₀ L m h' news := ⟨G.fr.keeps k, G.nw.keeps k, G.nd⟩
/-- an entry was written, and all else stands -/
theorem Lg.writeX (G : Lg h₀ L m h news) {i : Nat} {a : Addr} {o o' : Obj} {h' : Heap} (hi : news[i]? = some (a, o)) (hs : Heap.ExtBut a h h') (ho : h'.get? a = some o') : Lg h₀ L m h' (news.set i (a, o')) := by
  have hm := List.mem_of_getElem? hi
  have hold : ∀ b ob, h₀.get? b = some ob → b ≠ a := fun b ob e q => by
    have := (G.nw _ hm).2.2
    simp only at this
    rw [← q, e] at this; cases this
  refine ⟨⟨G.fr.ns.extBut hs (fun q => (G.nw _ hm).2.1 q.symm), fun b ob e => hs b ob (hold b ob e) (G.fr.keep b ob e), G.fr.above⟩, ?_, ?_⟩
  · intro p hp
    obtain ⟨j, hj⟩ := List.mem_iff_getElem?.mp hp
    rw [List.getElem?_set] at hj
    split at hj
    · split at hj
      · cases hj
        exact ⟨ho, (G.nw _ hm).2.1, (G.nw _ hm).2.2⟩
      · cases hj
    · rename_i e
      have hp' := List.mem_of_getElem? hj
      refine ⟨?_, (G.nw _ hp').2⟩
      have hne : p.1 ≠ a := fun q => e (by
        have h1 : (news.map (·.1))[j]? = some a := by rw [List.getElem?_map, hj]; exact congrArg some q
        have h2 : (news.map (·.1))[i]? = some a := by rw [List.getElem?_map, hi]; rfl
        obtain ⟨l1, e1⟩ := List.getElem?_eq_some_iff.mp h1
        obtain ⟨l2, e2⟩ := List.getElem?_eq_some_iff.mp h2
        exact (List.getElem_inj G.nd).mp (e2.trans e1.symm))
      exact hs p.1 _ hne (G.nw _ hp').1
  · rw [set_map_fst hi]; exact G.nd
/-- all that lies at or below K stands -/
theorem Lg.below {K : Addr} (G : Lg h₀ L m h news) {h' : Heap} (hK : ∀ p ∈ news, p.1 ≤ K) (F : Fr h₀ L h' m) (k : ∀ b o, b ≤ K → h.get? b = some o → h'.get? b = some o) : Lg h₀ L m h' news :=
  ⟨F, fun p hp => ⟨k _ _ (hK p hp) (G.nw p hp).1, (G.nw p hp).2⟩, G.nd⟩

theorem genexp_acc {env : Env} {elt iter : Expr} {xa xb : Str} {pa pb pt : Pos} {kt : Nat} {scope : Scope} {cl : List (Str × Addr)} {pos : Pos} {x d P c : Addr} {vs t : List Value} {n i j : Nat} {es : List Ent} {F : Nat → Value → Prop} {Q E : Value → Shared → Prop}
    (W : Wd w mg mb h₀) (G : Lg h₀ L m s.heap news) (hi : news[i]? = some (x, accObj d vs n)) (hj : news[j]? = some (P, tabO t)) (okP : TriplesOk t)
    (hIC : ∀ (h : Heap) (t : List Value), (hd.heap_1 w.params).In h → h.get? P = some (tabO t) → TriplesOk t → h.IsCode c P t.toArray ∧ h.TableAt c P t.toArray)
    (hcode : env.code = .ref c) (hgl : env.globals = mainGlobals) (hE : Ents s.heap vs es) (hev : ∀ Q' : Value → Shared → Prop, Q' (.ref x) s → wpAny (model PP w) A (eval iter env) Q' E s)
    (hh : A.handled = none) (hco : scope.isCoroutine = false) (hclos : closureFor scope env = pure cl) (hcell : ∀ y ∈ scope.names, y.2 ≠ .cell) (h0 : scope.names.lookup (".0" : Str) = some NameKind.local)
    (hxa : scope.names.lookup xa = some .local) (hxb : scope.names.lookup xb = some .local) (hab : xa ≠ xb) (hkind : scope.kind = .function) (hroom : A.depth < recursionLimit)
    (helt : ∀ code N A' E' k f p tf tp (s₂ : Shared) m₂, A'.handled = none → es[k]? = some (f, p) → Wd w mg mb s₂.heap → s₂.heap.Ns N m₂ → m₂ xa = some (.str f tf) → m₂ xb = some (.str p tp) →
      wpAny (model PP w) A' (eval elt (genEnv scope cl N code builtinsNs env)) (fun y s₃ => F k y ∧ Keeps s₂ s₃) E' s₂)
    (h : ∀ a (s' : Shared) t', Lg h₀ L m s'.heap (news.set j (P, tabO t')) → TriplesOk t' → (AllBare s.gens → AllBare s'.gens) → s'.os = s.os → (∀ b o, b ≠ P → s.heap.get? b = some o → s'.heap.get? b = some o) →
      (∀ p ∈ news.set j (P, tabO t'), p.1 ≤ s.heap.objs.size - 1) → L ≤ s.heap.objs.size - 1 → Gen PP w A (s.heap.objs.size - 1) a es.length (fun k y => k < es.length ∧ F k y) s' → Q (.ref a) s')
    (hs : ∀ x, genFold iter env x = pure x) :
    wpAny (model PP w) A (eval (.GeneratorExp elt [⟨.Tuple [.Name xa pa, .Name xb pb] kt pt, iter, [], 0⟩] scope pos) env) Q E s := by
  have X := W.X.keeps G.fr.keep
  have hx := G.get hi
  have hPg := G.get hj
  have hlim := W.T.nolimit.keeps G.fr.keep
  have hPn : P ∉ [s.heap.objs.size] := fun q => by
    have := Heap.lt_size hPg
    rcases List.mem_cons.mp q with e | e
    · exact absurd (e ▸ this) (Nat.lt_irrefl _)
    · cases e
  have hcP : cStatics ≠ P := fun e => by
    obtain ⟨_, hns, _⟩ := hlim
    obtain ⟨o, es, ep, ho, hd, _⟩ := hns
    rw [e, hPg] at ho; cases ho; cases hd
  refine wpAny_GeneratorExp_walksQT hh hco hclos hcell h0 hxa hxb hab hkind hroom (hev _ ?_) hs
  refine accIter X hx ?_
  refine ⟨hlim.push _, ?_⟩
  have Gp := G.ext (h' := s.heap.push (iterO x)) fun b o e => Heap.get?_push_of_some _ e
  have Xp := W.X.keeps Gp.fr.keep
  obtain ⟨ic, tb⟩ := hIC _ _ Xp (Gp.get hj) okP
  -- the code of the expression is found, or is made
  have key : ∀ (Q' : Value → Shared → Prop), (∀ code h' tk t', Heap.ExtBut P (s.heap.push (iterO x)) h' → (s.heap.push (iterO x)).objs.size ≤ h'.objs.size → h'.get? P = some (tabO t') → TriplesOk t' → Q' code { s with heap := h', toks := tk }) →
      wpAny (model PP w) A (genexprCode env pos (env.qual ++ "<genexpr>") scope) Q' E { s with heap := s.heap.push (iterO x) } := by
    intro Q' hq
    cases hnf : codeAmong pos t with
    | some c' => exact wpAny_genexprCode_hit hcode ic hnf (hq c' _ s.toks t (Heap.ExtBut.refl _ _) (Nat.le_refl _) (Gp.get hj) okP)
    | none =>
      refine wpAny_genexprCodeX hcode ic tb hnf fun c' h' tk hx' hge hlt hic' hrec htb' _ => ?_
      refine hq _ _ _ (t ++ [rawInt pos.line, rawInt pos.col, .ref c']) hx' (Nat.le_trans hge (Nat.le_of_lt hlt)) ?_ ?_
      · have := htb'.2
        rw [this]
        simp [tabO]
      · have := hic'
        obtain ⟨o, vs, file, tf, flags, tg, inF, text, tt, op, ho, hd, h11, h2, h7, h9, h10, hop, hpd, htr, hne⟩ := this
        simpa using htr
  refine key _ fun code h₃ tk₃ t' hx₃ hsz₃ hP₃ ok₃ => ?_
  have G₃ := Gp.writeX hj hx₃ hP₃
  obtain ⟨bm, ob, M⟩ := W.B
  have M₃ := M.keeps G₃.fr.keep
  rw [hgl]
  refine wpAny_builtinsFor M₃.ns M₃.name M₃.ne M₃.obj M₃.cls M₃.dict M₃.data ?_
  have hxl := Heap.lt_size hx
  have hsz₄ : s.heap.objs.size + 1 ≤ h₃.objs.size := by rw [Heap.size_push] at hsz₃; exact hsz₃
  have kp₃ : ∀ b o, b ≠ P → s.heap.get? b = some o → h₃.get? b = some o := fun b o q e => hx₃ b o q (Heap.get?_push_of_some _ e)
  have tupP : ∀ b vs, s.heap.get? b = some (tupObj vs) → b ≠ P := fun b vs e q => by rw [q, hPg] at e; cases e
  have xP : x ≠ P := fun q => by rw [q, hPg] at hx; cases hx
  have IP : s.heap.objs.size ≠ P := fun q => by
    have := Heap.lt_size hPg
    rw [← q] at this
    exact Nat.lt_irrefl _ this
  have tups : ∀ k, k < vs.length → s.heap.IsTuple (tsOf vs k) (valsOf s.heap vs k) := fun k hk => by
    obtain ⟨f, p, tf, tp, a, b, c, e⟩ := hE.at hk
    exact ⟨_, c, rfl, 0, by rw [e]⟩
  have cst : cStatics < s.heap.objs.size := let ⟨_, hn, _⟩ := hlim; hn.lt
  have hlim₃ : h₃.NoLimit := W.T.nolimit.keeps G₃.fr.keep
  refine ⟨s.heap.objs.size, s.heap.objs.size :: x :: (List.range vs.length).map (tsOf vs), [s.heap.objs.size], vs.length, _, _, _, fun _ => true, fun k y => k < es.length ∧ F k y, rfl,
    fun A' hA => walkPairs hA _ x (Nat.ne_of_lt hxl) vs (tsOf vs) (valsOf s.heap vs) (fun j hj => (hE.at hj).choose_spec.choose_spec.choose_spec.choose_spec.2.1) (fun j hj => ?_), ?_, ?_, ?_, hlim₃, ?_, ?_, ?_⟩
  · obtain ⟨f, p, tf, tp, a, b, c, e⟩ := hE.at hj
    exact Nat.ne_of_lt (Heap.lt_size c)
  · rintro i vals ⟨hi, rfl⟩
    obtain ⟨f, p, tf, tp, a, b, c, e⟩ := hE.at hi
    exact ⟨_, _, e⟩
  · refine ⟨⟨_, hx₃ _ _ IP (Heap.get?_push_size _ rfl), rfl, rfl⟩, ⟨_, _, kp₃ _ _ xP hx, rfl⟩, fun k hk => ?_⟩
    obtain ⟨f, p, tf, tp, a, b, c, e⟩ := hE.at hk
    exact ⟨_, kp₃ _ _ (tupP _ _ c) c, rfl, 0, by rw [e]⟩
  · intro b hb
    show b < h₃.objs.size
    refine Nat.lt_of_lt_of_le ?_ hsz₄
    rcases List.mem_cons.mp hb with rfl | hb
    · exact Nat.lt_succ_self _
    · rcases List.mem_cons.mp hb with rfl | hb
      · exact Nat.lt_succ_of_lt hxl
      · obtain ⟨k, hk, rfl⟩ := List.mem_map.mp hb
        obtain ⟨f, p, tf, tp, a, b, c, e⟩ := hE.at (List.mem_range.mp hk)
        exact Nat.lt_succ_of_lt (Heap.lt_size c)
  · intro hm
    rcases List.mem_cons.mp hm with e | hb
    · exact absurd (e ▸ cst) (Nat.lt_irrefl _)
    · cases hb
  · intro href hhref
    refine ⟨fun A' E' i va vb s₂ m₂ hA' hp hn _ _ _ => ?_, fun A' E' i va vb s₂ m₂ hA' hp _ hn ha hb hk => ?_⟩
    · exact wpAny_pure ⟨rfl, _, _, rfl, fun _ _ e => e⟩
    · obtain ⟨hi, hv⟩ := hp
      obtain ⟨f, p, tf, tp, a, b, c, e⟩ := hE.at hi
      rw [e] at hv
      obtain ⟨rfl, rfl⟩ : va = .str f tf ∧ vb = .str p tp := by simpa using hv
      have W₂ : Wd w mg mb s₂.heap := W.keeps fun b o e => hk b (List.mem_range.mpr (Nat.lt_of_lt_of_le (Nat.lt_succ_of_lt (Heap.lt_size (G.fr.keep b o e))) hsz₄))
        (fun q => by
          rcases List.mem_cons.mp q with r | r
          · have := Heap.lt_size (G.fr.keep b o e)
            rw [r] at this
            exact Nat.lt_irrefl _ this
          · cases r) o (hhref b o (G₃.fr.keep b o e))
      exact wpAny_mono (helt code _ A' E' i f p tf tp s₂ m₂ hA' a W₂ hn ha hb) (fun y s₃ hy => ⟨⟨hE.1 ▸ hi, hy.1⟩, hy.2⟩) fun _ _ e => e
  · intro a h₅ tk gs hgb hag hsz₅ hk₅ WS hat
    have hbd : ∀ p ∈ news.set j (P, tabO t'), p.1 ≤ s.heap.objs.size - 1 := fun p hp => by
      have : p.1 ∈ (news.set j (P, tabO t')).map (·.1) := List.mem_map_of_mem hp
      rw [set_map_fst hj] at this
      obtain ⟨q, hq, e⟩ := List.mem_map.mp this
      have := G.lt hq
      rw [← e]
      exact Nat.le_sub_one_of_lt this
    refine h a _ t' (G₃.ext hk₅) ok₃ (fun g => g.push hgb) rfl (fun b o hb e => hk₅ b o (kp₃ b o hb e)) hbd (Nat.le_sub_one_of_lt G.fr.ns.lt) (Gen.weak ⟨_, _, _, _, WS, hat, (fun i s' st => st.1.typeIs), List.mem_cons_self, ?_, ?_⟩ (by rw [passing_len]; exact hE.1) fun k y hy => ?_)
    · intro b hb
      show b < h₅.objs.size
      rw [hsz₅]
      rcases List.mem_cons.mp hb with rfl | hb
      · exact Nat.lt_succ_self _
      · rcases List.mem_cons.mp hb with rfl | hb
        · exact Nat.lt_succ_of_lt hag
        · exact Nat.lt_succ_of_lt (Nat.lt_trans (List.mem_range.mp hb) hag)
    · intro b hb
      rcases List.mem_cons.mp hb with rfl | hb
      · exact Nat.lt_of_le_of_lt (Nat.sub_le _ _) (Nat.lt_of_lt_of_le (Nat.lt_succ_self _) hsz₄)
      · rcases List.mem_cons.mp hb with e | hb
        · rw [e]; exact Nat.sub_one_lt (Nat.ne_of_gt (Nat.lt_of_le_of_lt (Nat.zero_le _) hxl))
        · cases hb
    · obtain ⟨i, hi, hF⟩ := hy
      obtain ⟨rfl, _⟩ := passing_all hi
      exact hF
end
end Mine
end
section
open PySem PySem.W PyProof.Rows PySem.Calls PySem.Spec Builtin Builtin.ObjectAttr
set_option Elab.async false
set_option maxRecDepth 100000
set_option maxHeartbeats 4000000
set_option pp.maxSteps 6000
namespace Mine
theorem fill14 (w : World) (h₀ : Heap) : (hd.heap_1 w.params).In h₀ → PySem.Challenge.rw_zd0011_01.Holds → True := by k_fill; intros; trivial
theorem kind_lga : builtinKind "list.__getattribute__" = some .slot := by decide +kernel
theorem split_lga : splitId "list.__getattribute__" = some ("list", "__getattribute__") := by decide +kernel
theorem plain_lga : plainId "list.__getattribute__" = true := by decide +kernel
theorem Gen.toks {prog : Program} {w : World} {A : Around} {K a : Addr} {n : Nat} {F : Nat → Value → Prop} {s : Shared} (X : Gen prog w A K a n F s) {tk : Nat} (h : s.toks ≤ tk) : Gen prog w A K a n F { s with toks := tk } := by
  obtain ⟨fp, wr, g, St, W, h1, h2, h3, h4, h5⟩ := X
  exact ⟨fp, wr, g, St, W, W.frame 0 s s.heap tk h1 h fun _ _ _ e => e, h2, h3, h4, h5⟩
section
variable {w : World} {mg mb : Str → Option Value} {A : Around} {s : Shared} {h₀ h : Heap} {L K : Addr} {m : Str → Option Value} {l rest news : List (Addr × Obj)} {Q E : Value → Shared → Prop}
theorem acc_get {x d : Addr} {vs : List Value} {n k : Nat} {es : List DictEntry} {name : Str} {v : Value} {expr : Bool} (X : (hd.heap_1 w.params).In s.heap) (hx : s.heap.get? x = some (accObj d vs n)) (hdd : s.heap.get? d = some (dictOf es k))
    (hf : findIn (hd.heap_1 w.params) (.ref 220) name = some none) (hl : getL name es = some (some v)) (hv : handedIn v = true) (h : Q v { s with toks := s.toks + 1 }) : wpAny (model PP w) A (getAttr (.ref x) name expr) Q E s := by
  have I := accInst hx hdd
  have hfo : findObj (hd.heap_1 w.params) 220 (some (dictOf es k)) name = some (.value v) := findObj_own (by k_is) hf (by rfl) hl
  have L0 := I.type (M := model PP w)
  have L1 := looks_find (M := model PP w) X I hfo
  have ga : Looks (model PP w) s.heap (typeLookup (.ref 220) "__getattribute__") (some (.builtin "list.__getattribute__")) := looks_findIn X (by k_is)
  have gh : Looks (model PP w) s.heap (typeLookup (.ref 220) "__getattr__") none := looks_findIn X (by k_is)
  obtain ⟨hh, g, dr, t, os⟩ := s
  dsimp only at X hx hdd I L0 L1 ga gh h
  unfold getAttr getAttrBy
  refine wpAny_bind (wpAny_mkText (wpAny_holding (wpAny_bind (L0.at (wpAny_bind (ga.at ?_))))))
  show wpAny _ _ (getAttrByItsOwn (.ref x) (.str name t) (.ref 220) (.builtin "list.__getattribute__") true expr) _ _ _
  unfold getAttrByItsOwn hookBefore callGetattribute boundAndCalled
  refine wpAny_bind ?_
  show wpAny _ _ (typeLookup (.ref 220) "__getattr__") _ _ _
  refine gh.at ?_
  refine wpAny_bind (wpAny_attempt (wpAny_holding ?_))
  rw [show (expr && onTheHeap (.builtin "list.__getattribute__")) = false from by cases expr <;> rfl, if_neg (by decide)]
  rw [PySem.F.slot_list_getattribute.bind (.ref x)]
  refine wpAny_bind (wpAny_pure ?_)
  refine wpAny_mono (Q := fun v' s' => v' = v ∧ s' = ⟨hh, g, dr, t + 1, os⟩) (E := fun _ _ => False) (call_slot (i := "list.__getattribute__") (owner := "list") (n := "__getattribute__") kind_lga split_lga plain_lga PySem.F.entry_list_ga (acc_isi X hx) (PySem.F.args_list_getattribute_2 _ _) ?_) (fun v' s' hv' => ?_) fun _ _ z => z.elim
  · unfold Builtin.«object.__getattribute__»
    refine wpAny_bind (wpAny_of_eq (a := (.ref x, [.str name t])) (by kernel_rfl) ?_)
    dsimp only
    refine wpAny_bind (wpAny_of_eq (a := name) (by rfl) ?_)
    refine wpAny_bind (L0.at (wpAny_bind (L1.at ?_)))
    exact wpAny_pure ⟨_, rfl, rfl, rfl⟩
  · obtain ⟨rfl, rfl⟩ := hv'
    show wpAny _ _ (handedOut _) _ _ _
    rw [handedOut_of hv]
    exact wpAny_pure h
end
end Mine
end
section
open PySem PySem.W PyProof.Rows PySem.Calls PySem.Spec Builtin Builtin.ObjectAttr
set_option Elab.async false
set_option maxRecDepth 100000
set_option maxHeartbeats 4000000
set_option pp.maxSteps 6000
namespace Mine
theorem fill15 (w : World) (h₀ : Heap) : (hd.heap_1 w.params).In h₀ → PySem.Challenge.rw_zd0011_01.Holds → True := by k_fill; intros; trivial
theorem args_sum2 (a b : Value) : argsOk "sum" ⟨[a, b], []⟩ := by unfold argsOk; kernel_rfl
section
variable {w : World} {mg mb : Str → Option Value} {A : Around} {s : Shared} {h₀ h : Heap} {L K : Addr} {m : Str → Option Value} {l rest news : List (Addr × Obj)} {Q E : Value → Shared → Prop}

/-- the sum of a generator's ints, from nought on -/
theorem sum_gen {a : Addr} {n : Nat} {F : Nat → Value → Prop} {tz : Tok} (G : Lg h₀ L m s.heap news) (hb : ∀ p ∈ news, p.1 ≤ K) (X : Gen PP w A K a n F s) (hLK : L ≤ K) (val : Nat → Int) (hval : ∀ j v, F j v → ∃ t, v = .int (val j) t)
    (hQ : ∀ (s' : Shared) t', Lg h₀ L m s'.heap news → (AllBare s.gens → AllBare s'.gens) → s'.os = s.os → (∀ b o, b ≤ K → s.heap.get? b = some o → s'.heap.get? b = some o) → Q (.int (preSum val n) t') s') :
    wpAny (model PP w) A (call (.builtin "sum") [.ref a, .int 0 tz]) Q E s := by
  obtain ⟨fp, wr, g, St, W, hst, _, _, hfp, hwr⟩ := X
  have W := W.in4_1
  refine call_function_tree PySem.F.kind_sum PySem.F.plain_sum PySem.F.entry_sum (args_sum2 _ _) ?_
  unfold Builtin.«sum»
  simp only [List.length_cons, List.length_nil]
  rw [if_neg (by decide)]
  refine wpAny_bind (wpAny_of_eq (show Builtin.Builtins.bindParams "sum" ["start"] 0 ⟨[.int 0 tz], []⟩ = pure [some (.int 0 tz)] from rfl) ?_)
  refine wpAny_bind (W.self 0 _ _ _ hst ?_)
  refine wpAny_bind (wpAny_rule ?_)
  refine wpAny_bind (wpAny_mkInt (wpAny_bind (wpAny_pure ?_)))
  simp only [List.forIn_cons, List.forIn_nil]
  refine wpAny_bind (wpAny_bind (wpAny_bind (wpAny_isInstance (T := "int") (b := false) (typeIs_int _ _ _) PySem.sub_int_str ?_)))
  simp only [Bool.false_eq_true, if_false]
  refine wpAny_pure (wpAny_bind (wpAny_bind (wpAny_isInstance (T := "int") (b := false) (typeIs_int _ _ _) PySem.sub_int_bytes ?_)))
  simp only [Bool.false_eq_true, if_false]
  refine wpAny_pure (wpAny_bind (wpAny_bind (wpAny_isInstance (T := "int") (b := false) (typeIs_int _ _ _) PySem.sub_int_bytearray ?_)))
  simp only [Bool.false_eq_true, if_false]
  refine wpAny_pure (wpAny_pure ?_)
  refine wpAny_bind (wpAny_newObj_type ?_)
  have hSf : s.heap.objs.size ∉ fp := fun hm => Nat.lt_irrefl _ (hfp _ hm)
  refine wpAny_pure ⟨plainId_quiet PySem.F.plain_sum_loop _, codeAny_sum_loopAnyS W val hval s.heap.objs.size hSf n 0 _ s.toks 0 0 (.inl rfl) rfl (Nat.zero_le _)
    (W.frame 0 s _ _ hst (by first | exact Nat.le_refl _ | exact Nat.le_succ _ | omega) fun b _ o e => Heap.get?_push_of_some _ e) (Heap.get?_push_size _ rfl) fun s' t' hm => ?_⟩
  have hm := hm.drop_new (by first | exact Nat.le_refl _ | exact Nat.le_succ _ | omega)
  have k1 : ∀ b o, b ≤ K → s.heap.get? b = some o → s'.heap.get? b = some o := fun b o hb e => hm.heap b o (fun hmem => Nat.lt_irrefl _ (Nat.lt_of_lt_of_le (hwr b hmem) hb)) e
  exact hQ s' t' (G.below hb (G.fr.moved hm fun b hb => Nat.lt_of_le_of_lt hLK (hwr b hb)) k1) (fun g => g.movedS hm) hm.os k1

theorem notCore {core : List (Addr × Obj)} (G : Lg h₀ L m h (core ++ rest)) (hc : ∀ p ∈ core, ∀ us, p.2 ≠ tupObj us) {t : Addr} {us : List Value} (e : h.get? t = some (tupObj us)) : t ∉ core.map (·.1) := fun q => by
  obtain ⟨p, hp, rfl⟩ := List.mem_map.mp q
  have := (G.nw p (List.mem_append_left _ hp)).1
  rw [e] at this
  exact hc p hp us (Option.some.inj this).symm
theorem Acc.notup {x d : Addr} {vs : List Value} (ha : Acc x d vs l) : ∀ p ∈ l, ∀ us, p.2 ≠ tupObj us := by
  obtain ⟨n, hk, tk, tz, k, t1, t2, rfl, ok1, ok2, hl⟩ := ha
  intro p hp us e
  simp only [List.mem_cons, List.not_mem_nil, or_false] at hp
  rcases hp with rfl | rfl | rfl | rfl <;> exact absurd (congrArg Obj.cls e) (by simp)
theorem Ents.back {core : List (Addr × Obj)} {s' : Shared} {l' : List (Addr × Obj)} {vs : List Value} {es : List Ent} (hE : Ents s.heap vs es) (G : Lg h₀ L m s.heap (core ++ rest)) (hc : ∀ p ∈ core, ∀ us, p.2 ≠ tupObj us) (B : Bk s h₀ L m core rest s' l') : Ents s'.heap vs es :=
  hE.keep fun _ _ e => B.kp _ _ e (notCore G hc e)
theorem ic_len (h : Heap) (t : List Value) (X : (hd.heap_1 w.params).In h) (hP : h.get? 182 = some (tabO t)) (ok : TriplesOk t) : h.IsCode 186 182 t.toArray ∧ h.TableAt 186 182 t.toArray := by
  have hc := X 186 _ (by k_is)
  exact ⟨⟨_, _, _, _, _, _, _, _, _, _, hc, rfl, rfl, rfl, rfl, rfl, rfl, hP, rfl, by simpa using ok, by decide⟩, ⟨_, _, hc, rfl, rfl, rfl⟩, hP⟩

noncomputable abbrev elen (es : List Ent) : Nat := (es.map fun e => e.1.length + e.2.length).sum
noncomputable def lenAt (es : List Ent) (j : Nat) : Int := (es.map fun e => ((e.1.length + e.2.length : Nat) : Int)).getD j 0
theorem elen_cast : ∀ es : List Ent, (es.map fun e => ((e.1.length + e.2.length : Nat) : Int)).sum = ((elen es : Nat) : Int)
  | [] => rfl
  | e :: r => by
    have := elen_cast r
    rw [List.map_cons, List.sum_cons, this]
    show _ = ((((e.1.length + e.2.length) + elen r : Nat)) : Int)
    exact (Int.natCast_add _ _).symm
theorem preSum_lenAt (es : List Ent) : preSum (lenAt es) es.length = (elen es : Int) := by
  have := preSum_getD (es.map fun e => ((e.1.length + e.2.length : Nat) : Int)) es.length
  unfold lenAt
  rw [this, List.take_of_length_le (by simp)]
  exact elen_cast es

theorem c_len {x d : Addr} {vs : List Value} {es : List Ent} (ha : Acc x d vs l) (hE : Ents s.heap vs es) (hsz : ∀ e ∈ es, e.1.length ≤ 1000 ∧ e.2.length ≤ 1000) (hh : A.handled = none) (W : Wd w mg mb h₀) (G : Lg h₀ L m s.heap (l ++ rest)) (hroom : A.depth + 1 < recursionLimit)
    (h : ∀ s' t l', Acc x d vs l' → Bk s h₀ L m l rest s' l' → Q (.int (elen es) t) s') : wpAny (model PP w) A (call (.ref 187) [.ref x]) Q E s := by
  have ha0 := ha
  obtain ⟨n, hk, tk, tz, k, t1, t2, rfl, ok1, ok2, hl⟩ := ha
  refine call_def (cl := []) (binds := [("self", .ref x)]) W G (by k_is) rfl (by k_is) (by omega) (.of_eq rfl) (by rfl) ?_ (by decide)
  intro g L' h₁ W' kp G' back
  refine wpAny_execs_cons ?_
  refine wpAny_Return_some ?_
  refine Call_ ?_
  refine nameX_B G'.fr W'.X W'.T (by k_is) (by boot_by_name) (by decide) ?_
  refine PyProof.Rows.callWith_builtin1 ?_
  refine spliced_more ?_
  have hE' : Ents h₁ vs es := hE.keep fun _ _ e => G'.fr.keep _ _ (kp _ _ e (notCore G ha0.notup e))
  refine genexp_acc (es := es) (F := fun k y => ∃ t, y = .int (lenAt es k) t) W' G' (i := 0) (j := 2) rfl rfl ok1 ic_len rfl rfl hE' (fun Q' hq => nameX_L G'.fr rfl hq) hh rfl rfl (by decide) (by rfl) (by rfl) (by rfl) (by decide) rfl (by show A.depth + 1 < _; omega) ?_ ?_ (fun _ => rfl)
  · intro code N A' E' j f p tf tp s₂ m₂ hA' hj W₂ hn ha hb
    have hje := hsz _ (List.mem_of_getElem? hj)
    dsimp only at hje
    have glen : ∀ (s₃ : Shared) (E₃ : Value → Shared → Prop) (Q₃ : Value → Shared → Prop) (pos : Pos), Wd w mg mb s₃.heap → Q₃ (.builtin "len") s₃ → wpAny (model PP w) A' (PySem.eval (.Name "len" pos) (genEnv ({ kind := .function, names := [(".0", .local), ("fws", .local), ("part", .local), ("len", .globalImplicit)], isGenerator := true, isCoroutine := false } : Scope) [] N code builtinsNs (envX (Str.ofString "_Accumulator.__len__") { kind := .function, names := [("self", .local), ("sum", .globalImplicit)], isGenerator := false, isCoroutine := false } L' 187 (.ref 186) []))) Q₃ E₃ s₃ := fun s₃ E₃ Q₃ pos W₃ q =>
      Name_function_global rfl rfl (loadGlobal_builtin W₃.T.g (mg_none_of W₃.X W₃.T.g (by k_is)) W₃.T.b ((W₃.T.builtins _ (by decide)).trans (by boot_by_name)) q) (by decide)
    refine wpAny_BinOp ?_
    refine Call_ (glen _ _ _ _ W₂ (PyProof.Rows.callWith_builtin1 (spliced_more (wpAny_Name (wpAny_loadName_local rfl rfl hn ha (spliced_none ?_)) (by decide)))))
    refine SBL.len (by omega) ?_
    refine Call_ (glen _ _ _ _ W₂ (PyProof.Rows.callWith_builtin1 (spliced_more (wpAny_Name (wpAny_loadName_local rfl rfl hn hb (spliced_none ?_)) (by decide)))))
    refine SBL.len (by omega) ?_
    refine PyProof.Rows.add_int ?_
    have : lenAt es j = (f.length : Int) + (p.length : Int) := by
      unfold lenAt
      rw [List.getD_eq_getElem?_getD, List.getElem?_map, hj]
      rfl
    exact ⟨⟨_, congrArg (Value.int · _) this.symm⟩, _, _, rfl, fun _ _ e => e⟩
  · intro a s' t' G2 ok2' hg hos hk2 hb2 hL2 X2
    refine spliced_more ?_
    refine Attribute_any_ ?_
    refine nameX_L G2.fr rfl ?_
    refine acc_get (W'.X.keeps G2.fr.keep) (G2.get (i := 0) rfl) (G2.get (i := 1) rfl) (by k_is) rfl rfl ?_
    refine spliced_none ?_
    refine sum_gen (K := h₁.objs.size - 1) (s := { s' with toks := s'.toks + 1 }) G2 hb2 (Gen.toks X2 (Nat.le_succ _)) hL2 (lenAt es) (fun j v hv => hv.2) ?_
    intro s3 t3 G3 hg3 hos3 hk3
    rw [preSum_lenAt]
    exact h _ _ _ ⟨_, _, _, _, _, _, _, rfl, ok2', ok2, hl⟩ (back _ _ _ G3 (hos3.trans hos) fun q => hg3 (hg q))
end
end Mine
end
section
open PySem PySem.W PyProof.Rows PySem.Calls PySem.Spec Builtin Builtin.ObjectAttr
set_option Elab.async false
set_option maxRecDepth 100000
set_option maxHeartbeats 4000000
set_option pp.maxSteps 6000
namespace Mine
theorem fill16 (w : World) (h₀ : Heap) : (hd.heap_1 w.params).In h₀ → PySem.Challenge.rw_zd0011_01.Holds → True := by k_fill; intros; trivial

/-- there is room for k calls below this one -/
structure Rm (A : Around) (k : Nat) : Prop where
  h : A.handled = none
  d : A.depth + k < recursionLimit
  u : A.units + 10 * k < cLine
theorem Rm.deep {A : Around} {k : Nat} {env : Env} (r : Rm A (k + 1)) : Rm (A.deeper env) k := ⟨r.h, by have := r.d; show A.depth + 1 + k < _; omega, by have := r.u; show A.units + 3 + 10 * k < _; omega⟩
theorem Rm.in1 {A : Around} {k : Nat} (r : Rm A (k + 1)) : Rm A.in1 k := ⟨r.h, by have := r.d; show A.depth + k < _; omega, by have := r.u; show A.units + 1 + 10 * k < _; omega⟩
theorem Rm.le {A : Around} {k j : Nat} (r : Rm A k) (h : j ≤ k) : Rm A j := ⟨r.h, by have := r.d; omega, by have := r.u; omega⟩
theorem Rm.room {A : Around} {k : Nat} (r : Rm A k) : A.depth < recursionLimit := by have := r.d; omega
theorem Rm.room1 {A : Around} {k : Nat} (r : Rm A (k + 1)) : A.depth + 1 < recursionLimit := by have := r.d; omega

section
variable {w : World} {mg mb : Str → Option Value} {A : Around} {s : Shared} {h₀ h : Heap} {L K : Addr} {m : Str → Option Value} {l rest news : List (Addr × Obj)} {Q E : Value → Shared → Prop}
theorem join_gen {a : Addr} {n : Nat} {F : Nat → Value → Prop} {sep : Str} {tz : Tok} (G : Lg h₀ L m s.heap news) (hb : ∀ p ∈ news, p.1 ≤ K) (X : Gen PP w A K a n F s) (hLK : L ≤ K) (ts : List Str) (hn : n = ts.length) (htx : ∀ j v, F j v → ∃ x u, ts[j]? = some x ∧ v = .str x u)
    (hok : JoinOk sep ts = true)
    (hQ : ∀ (s' : Shared) t', Lg h₀ L m s'.heap news → (AllBare s.gens → AllBare s'.gens) → s'.os = s.os → (∀ b o, b ≤ K → s.heap.get? b = some o → s'.heap.get? b = some o) → Q (.str (Txt.join sep ts) t') s')
    (hsz : n ≤ sizeLine) : wpAny (model PP w) A (call (.builtin "str.join") [.str sep tz, .ref a]) Q E s := by
  obtain ⟨fp, wr, g, St, W, hst, hT, ha, hfp, hwr⟩ := X
  have W := W.in4_2
  refine PySem.SC.joinGen W hT hst hfp ha (fun j v hv => let ⟨x, u, _, e⟩ := htx j v hv; ⟨x, u, e⟩) (fun s' lt hm hacc => ?_) hsz
  have hl : lt.map (·.1) = ts := by
    apply List.ext_getElem?
    intro j
    have hsz : lt.length = n := by simpa [strValues] using hacc.1
    by_cases hj : j < n
    · have hj' : j < lt.length := hsz ▸ hj
      obtain ⟨x, u, hx, hv⟩ := htx j _ (hacc.2 j (.str lt[j].1 lt[j].2) (by simp [strValues, List.getElem?_eq_getElem hj']))
      injection hv with h1 _
      rw [hx, List.getElem?_map, List.getElem?_eq_getElem hj', Option.map_some, h1]
    · rw [List.getElem?_eq_none (by simpa [hsz] using Nat.le_of_not_lt hj), List.getElem?_eq_none (by rw [← hn]; exact Nat.le_of_not_lt hj)]
  rw [hl]
  have k1 : ∀ b o, b ≤ K → s.heap.get? b = some o → s'.heap.get? b = some o := fun b o hb e => hm.heap b o (fun hmem => Nat.lt_irrefl _ (Nat.lt_of_lt_of_le (hwr b hmem) hb)) e
  have f1 := G.below hb (G.fr.moved hm fun b hb => Nat.lt_of_le_of_lt hLK (hwr b hb)) k1
  have g1 : AllBare s.gens → AllBare s'.gens := fun g => g.movedS hm
  have o1 := hm.os
  exact ⟨hok, fun t' k => hQ { s' with toks := k } t' f1 g1 o1 k1⟩

theorem ic_str (h : Heap) (t : List Value) (X : (hd.heap_1 w.params).In h) (hP : h.get? 189 = some (tabO t)) (ok : TriplesOk t) : h.IsCode 193 189 t.toArray ∧ h.TableAt 193 189 t.toArray := by
  have hc := X 193 _ (by k_is)
  exact ⟨⟨_, _, _, _, _, _, _, _, _, _, hc, rfl, rfl, rfl, rfl, rfl, rfl, hP, rfl, by simpa using ok, by decide⟩, ⟨_, _, hc, rfl, rfl, rfl⟩, hP⟩

noncomputable abbrev eOne (e : Ent) : Str := Txt.join (Str.ofString "") [e.1, e.2]
noncomputable abbrev eStr (es : List Ent) : Str := Txt.join (Str.ofString "") (es.map eOne)

theorem eOne_len (e : Ent) : (eOne e).length ≤ e.1.length + e.2.length := by
  have := StrLaws.join_length_le (Str.ofString "") [e.1, e.2]
  rw [← StrLaws.glued_eq_join] at this
  have z : (Str.ofString "").length = 0 := by decide
  rw [z] at this
  simpa [eOne, Txt.join] using this
theorem eStr_weight : ∀ es : List Ent, (∀ e ∈ es, e.1.length ≤ 1000 ∧ e.2.length ≤ 1000) → ((es.map eOne).map (·.length)).sum ≤ 2000 * es.length
  | [], _ => Nat.le_refl _
  | e :: r, h => by
    have ih := eStr_weight r fun e he => h e (List.mem_cons_of_mem _ he)
    have h1 := h e List.mem_cons_self
    have h2 := eOne_len e
    simp only [List.map_cons, List.sum_cons, List.length_cons]
    omega
theorem c_str {x d : Addr} {vs : List Value} {es : List Ent} (ha : Acc x d vs l) (hE : Ents s.heap vs es) (hsz : ∀ e ∈ es, e.1.length ≤ 1000 ∧ e.2.length ≤ 1000) (R : Rm A 3) (W : Wd w mg mb h₀) (G : Lg h₀ L m s.heap (l ++ rest))
    (h : ∀ s' t l', Acc x d vs l' → Bk s h₀ L m l rest s' l' → Q (.str (eStr es) t) s') : wpAny (model PP w) A (call (.ref 194) [.ref x]) Q E s := by
  have ha0 := ha
  obtain ⟨n, hk, tk, tz, k, t1, t2, rfl, ok1, ok2, hl⟩ := ha
  refine call_def (cl := []) (binds := [("self", .ref x)]) W G (by k_is) rfl (by k_is) R.room (.of_eq rfl) (by rfl) ?_ (by decide)
  intro g L' h₁ W' kp G' back
  have hE' : Ents h₁ vs es := hE.keep fun _ _ e => G'.fr.keep _ _ (kp _ _ e (notCore G ha0.notup e))
  refine wpAny_execs_cons ?_
  refine wpAny_Return_some ?_
  refine MethodCall_ ?_
  refine nameX_K G'.fr W'.X W'.T (by k_is) ?_
  refine GM.join ?_
  refine callWith_method1 ?_
  refine spliced_more ?_
  let envS : Env := envX (Str.ofString "_Accumulator.__str__") { kind := .function, names := [("self", .local), ("EMPTYSTRING", .globalImplicit)], isGenerator := false, isCoroutine := false } L' 194 (.ref 193) []
  let scS : Scope := { kind := .function, names := [(".0", .local), ("fws", .local), ("part", .local), ("EMPTYSTRING", .globalImplicit)], isGenerator := true, isCoroutine := false }
  refine genexp_acc (es := es) (F := fun k y => ∃ e u, es[k]? = some e ∧ y = .str (eOne e) u) W' G' (i := 0) (j := 3) rfl rfl ok2 ic_str rfl rfl hE' (fun Q' hq => nameX_L G'.fr rfl hq) R.h rfl rfl (by decide) (by rfl) (by rfl) (by rfl) (by decide) rfl (R.deep (k := 2)).room ?_ ?_ (fun _ => rfl)
  · intro code N A' E' j f p tf tp s₂ m₂ hA' hj W₂ hn ha hb
    have hje := hsz _ (List.mem_of_getElem? hj)
    dsimp only at hje
    refine MethodCall_ ?_
    refine Name_function_global rfl rfl (loadGlobal_global (W₂.T.g) (mg_of W₂.X W₂.T.g (by k_is)) ?_) (by decide)
    refine GM.join ?_
    refine callWith_method1 (spliced_more (Tuple_ (spliced_more (wpAny_Name (wpAny_loadName_local rfl rfl hn ha (spliced_more (wpAny_Name (wpAny_loadName_local rfl rfl hn hb (spliced_none ?_)) (by decide)))) (by decide)))))
    refine wpAny_newObj_type ?_ (by show 2 ≤ sizeLine; rw [sizeLine_eq]; omega)
    refine spliced_none ?_
    refine join_tupleW (ys := [f, p]) ⟨_, Heap.get?_push_size _ rfl, rfl, _, rfl⟩ (.cons _ _ (.cons _ _ .nil)) (by decide) (by simp; omega) fun t' k => ?_
    exact ⟨⟨_, _, hj, rfl⟩, _, _, rfl, fun _ _ e => Heap.get?_push_of_some _ e⟩
  · intro a s' t' G2 ok2' hg hos hk2 hb2 hL2 X2
    refine spliced_none ?_
    refine join_gen (K := h₁.objs.size - 1) G2 hb2 X2 hL2 (es.map eOne) (by simp) (fun j v hv => ?_) ?_ (fun s3 t3 G3 hg3 hos3 hk3 => ?_) ?_
    · obtain ⟨_, e, u, he, rfl⟩ := hv
      exact ⟨_, _, by rw [List.getElem?_map, he]; rfl, rfl⟩
    · have := hE.1
      have h2 := eStr_weight es hsz
      refine joinOk_of_weight ?_ (by decide)
      rw [List.length_map]
      omega
    · exact h _ _ _ ⟨_, _, _, _, _, _, _, rfl, ok1, ok2', hl⟩ (back _ _ _ G3 (hos3.trans hos) fun q => hg3 (hg q))
    · have := hE.1
      rw [sizeLine_eq]; omega
end
end Mine
end
section
open PySem PySem.W PyProof.Rows PySem.Calls PySem.Spec Builtin Builtin.ObjectAttr
set_option Elab.async false
set_option maxRecDepth 100000
set_option maxHeartbeats 4000000
set_option pp.maxSteps 6000
namespace Mine
theorem fill17 (w : World) (h₀ : Heap) : (hd.heap_1 w.params).In h₀ → PySem.Challenge.rw_zd0011_01.Holds → True := by k_fill; intros; trivial
section
variable {w : World} {mg mb : Str → Option Value} {A : Around} {s : Shared} {h₀ h : Heap} {L K : Addr} {m : Str → Option Value} {l rest news : List (Addr × Obj)} {Q E : Value → Shared → Prop}

/-- the facts at hand upon an accumulator -/
structure AccF (s : Shared) (x d : Addr) (vs : List Value) (es : List Ent) (h₀ : Heap) (L : Addr) (m : Str → Option Value) (l rest : List (Addr × Obj)) : Prop where
  a : Acc x d vs l
  e : Ents s.heap vs es
  z : ∀ e ∈ es, e.1.length ≤ 1000 ∧ e.2.length ≤ 1000
  g : Lg h₀ L m s.heap (l ++ rest)
theorem AccF.inst {x d : Addr} {vs : List Value} {es : List Ent} (F : AccF s x d vs es h₀ L m l rest) : ∃ n o, InstAt s.heap x (accObj d vs n) 220 (some o) := by
  obtain ⟨n, hk, tk, tz, k, t1, t2, rfl, ok1, ok2, hl⟩ := F.a
  exact ⟨n, _, accInst (F.g.get (i := 0) rfl) (F.g.get (i := 1) rfl)⟩
theorem AccF.back {x d : Addr} {vs : List Value} {es : List Ent} {s' : Shared} {l' : List (Addr × Obj)} (F : AccF s x d vs es h₀ L m l rest) (ha : Acc x d vs l') (B : Bk s h₀ L m l rest s' l') : AccF s' x d vs es h₀ L m l' rest :=
  ⟨ha, F.e.back F.g F.a.notup B, F.z, B.lg⟩
theorem AccF.bound {x d : Addr} {vs : List Value} {es : List Ent} (F : AccF s x d vs es h₀ L m l rest) : es.length ≤ 100 := by
  obtain ⟨n, hk, tk, tz, k, t1, t2, rfl, ok1, ok2, hl⟩ := F.a
  rw [← F.e.1]; exact hl
theorem elen_le : ∀ es : List Ent, (∀ e ∈ es, e.1.length ≤ 1000 ∧ e.2.length ≤ 1000) → elen es ≤ 2000 * es.length
  | [], _ => Nat.le_refl _
  | e :: r, h => by
    have ih := elen_le r fun e he => h e (List.mem_cons_of_mem _ he)
    have h1 := h e List.mem_cons_self
    unfold elen at *
    simp only [List.map_cons, List.sum_cons, List.length_cons]
    omega

theorem len_core {x d : Addr} {vs : List Value} {es : List Ent} {Q : Fin → Shared → Prop} (F : AccF s x d vs es h₀ L m l rest) (R : Rm A 3) (W : Wd w mg mb h₀)
    (h : ∀ s' t l', Acc x d vs l' → Bk s h₀ L m l rest s' l' → Q (.done (.ret (.int (elen es) t))) s') : wpAny (model PP w) A (Builtin.«len» ⟨[.ref x], []⟩) Q E s := by
  obtain ⟨n, o, I⟩ := F.inst
  have X := W.X.keeps F.g.fr.keep
  have hb := elen_le es F.z
  have hb2 := F.bound
  unfold Builtin.«len»
  refine wpAny_bind (m := oneArg "len" _) (wpAny_pure ?_)
  refine wpAny_bind (m := callSpecial? (.ref x) (Str.ofString "__len__")) (special_fn X I (by k_is) (by k_is) (c_len F.a F.e F.z R.h W F.g R.room1 fun s' t l' ha' B => ?_))
  refine wpAny_bind (wpAny_holding (wpAny_pure ?_))
  refine wpAny_bind (wpAny_letGo ?_)
  show wpAny _ _ (if ((elen es : Nat) : Int) < 0 then _ else _) _ _ _
  rw [if_neg (by omega)]
  show wpAny _ _ (if ((elen es : Nat) : Int) ≥ 2 ^ 63 then _ else _) _ _ _
  rw [if_neg (by omega)]
  refine wpAny_bind (wpAny_mkInt (wpAny_pure ?_))
  exact h _ _ _ ha' ⟨B.lg, B.kp, B.os, B.gn⟩

theorem len_acc {x d : Addr} {vs : List Value} {es : List Ent} (F : AccF s x d vs es h₀ L m l rest) (R : Rm A 4) (W : Wd w mg mb h₀)
    (h : ∀ s' t l', Acc x d vs l' → Bk s h₀ L m l rest s' l' → Q (.int (elen es) t) s') : wpAny (model PP w) A (call (.builtin "len") [.ref x]) Q E s := by
  refine Calls.call_function_entry kind_len plain_len entry_len (args_len1 _) ?_
  exact len_core F R.in1 W fun s' t l' ha B => ⟨_, rfl, h _ _ _ ha B⟩

theorem truthy_acc {x d : Addr} {vs : List Value} {es : List Ent} {Q : Bool → Shared → Prop} (F : AccF s x d vs es h₀ L m l rest) (R : Rm A 4) (W : Wd w mg mb h₀)
    (h : ∀ s' l', Acc x d vs l' → Bk s h₀ L m l rest s' l' → Q (elen es != 0) s') : wpAny (model PP w) A (truthy (.ref x)) Q E s := by
  obtain ⟨n, o, I⟩ := F.inst
  have X := W.X.keeps F.g.fr.keep
  have ht := I.type (M := model PP w)
  have hb : Looks (model PP w) s.heap (typeLookup (.ref 220) "__bool__") none := looks_findIn X (by k_is)
  have hl : Looks (model PP w) s.heap (typeLookup (.ref 220) "__len__") (some (.ref 187)) := looks_findIn X (by k_is)
  unfold truthy callSpecial? specialOf
  refine wpAny_bind (wpAny_bind (wpAny_bind (ht.here (hb.here (wpAny_pure ?_)))))
  dsimp only
  refine wpAny_bind (wpAny_bind (ht.here (hl.here ?_)))
  rw [if_neg (by decide)]
  refine wpAny_bind (wpAny_runValue (codeAny_builtin entry_len ?_))
  rw [Around.under_plainId plain_len]
  exact len_core F R.in1 W fun s' t l' ha B => wpAny_pure (by
    have q : (((elen es : Nat) : Int) != 0) = (elen es != 0) := by
      cases elen es with
      | zero => rfl
      | succ k => rfl
    rw [q]
    exact h _ _ ha B)

theorem str_acc {x d : Addr} {vs : List Value} {es : List Ent} (F : AccF s x d vs es h₀ L m l rest) (R : Rm A 6) (W : Wd w mg mb h₀)
    (h : ∀ s' t l', Acc x d vs l' → Bk s h₀ L m l rest s' l' → Q (.str (eStr es) t) s') : wpAny (model PP w) A (call (.type "str") [.ref x]) Q E s := by
  obtain ⟨n, o, I⟩ := F.inst
  have X := W.X.keeps F.g.fr.keep
  refine kso_call (by have := R.u; show A.units + 1 + 1 < _; omega) X I (by k_is) (by k_is) ?_
  exact c_str F.a F.e F.z (R.le (by decide) : Rm A 5).in1.in1 W F.g fun s' t l' ha B => h _ _ _ ha B

theorem c_onlyws {x d : Addr} {vs : List Value} {es : List Ent} (F : AccF s x d vs es h₀ L m l rest) (R : Rm A 8) (W : Wd w mg mb h₀) (hn : elen es ≠ 0) (hw : Txt.isspace (eStr es) = false)
    (h : ∀ s' l', Acc x d vs l' → Bk s h₀ L m l rest s' l' → Q (.bool false) s') : wpAny (model PP w) A (call (.ref 209) [.ref x]) Q E s := by
  have F0 := F
  obtain ⟨⟨n, hk, tk, tz, k, t1, t2, rfl, ok1, ok2, hl⟩, he, hz, G⟩ := F
  refine call_def (cl := []) (binds := [("self", .ref x)]) W G (by k_is) rfl (by k_is) R.room (.of_eq rfl) (by rfl) ?_ (by decide)
  intro g L' h₁ W' kp G' back
  have hE' : Ents h₁ vs es := he.keep fun _ _ e => G'.fr.keep _ _ (kp _ _ e (notCore G F0.a.notup e))
  refine wpAny_execs_cons ?_
  refine wpAny_Return_some ?_
  refine BoolOp_and ?_
  refine wpAny_Compare1 ?_
  refine Attribute_any_ ?_
  refine nameX_L G'.fr rfl ?_
  refine acc_get (W'.X.keeps G'.fr.keep) (G'.get (i := 0) rfl) (G'.get (i := 1) rfl) (by k_is) rfl rfl ?_
  refine wpAny_Constant_int ?_
  refine PyProof.Rows.eq_int ?_
  refine wpAny_truthy_bool ?_
  rw [if_pos (by decide)]
  refine BoolOp_one ?_
  refine BoolOp_or ?_
  refine UnaryOp_ ?_
  refine nameX_L G'.fr rfl ?_
  refine not_of ?_
  have F1 : AccF ⟨h₁, s.gens, s.drawn, s.toks + 1 + 1 + 1, s.os⟩ x d vs es g L' _ _ [] := ⟨F0.a, hE', hz, G'.app⟩
  refine truthy_acc F1 (R.deep.le (by decide)) W' fun s2 l2 ha2 B2 => ?_
  have F2 := F1.back ha2 B2
  have e0 : (elen es != 0) = true := by simp [hn]
  rw [e0]
  refine wpAny_truthy_bool ?_
  rw [if_neg (by decide)]
  refine BoolOp_one ?_
  refine MethodCall_ ?_
  refine Call_ ?_
  refine nameX_B F2.g.fr W'.X W'.T (by k_is) (by boot_by_name) (by decide) ?_
  refine PyProof.Rows.callWith_type1 (spliced_more (nameX_L F2.g.fr rfl (spliced_none ?_)))
  refine str_acc F2 (R.deep.le (by decide)) W' fun s3 t3 l3 ha3 B3 => ?_
  refine GM.isspace ?_
  refine callWith_method0 ?_
  refine SC.isspace ?_
  rw [hw]
  refine h _ _ ha3 (back _ _ _ B3.lg.unapp (B3.os.trans B2.os) fun q => B3.gn (B2.gn q))
end
end Mine
end
section
open PySem PySem.W PyProof.Rows PySem.Calls PySem.Spec Builtin Builtin.ObjectAttr
set_option Elab.async false
set_option maxRecDepth 100000
set_option maxHeartbeats 4000000
set_option pp.maxSteps 6000
namespace Mine
theorem fill18 (w : World) (h₀ : Heap) : (hd.heap_1 w.params).In h₀ → PySem.Challenge.rw_zd0011_01.Holds → True := by k_fill; intros; trivial
theorem kind_lgi : builtinKind "list.__getitem__" = some .method := by decide +kernel
theorem split_lgi : splitId "list.__getitem__" = some ("list", "__getitem__") := by decide +kernel
theorem plain_lgi : plainId "list.__getitem__" = true := by decide +kernel
theorem kind_lsi : builtinKind "list.__setitem__" = some .slot := by decide +kernel
theorem split_lsi : splitId "list.__setitem__" = some ("list", "__setitem__") := by decide +kernel
theorem plain_lsi : plainId "list.__setitem__" = true := by decide +kernel
section
variable {w : World} {mg mb : Str → Option Value} {A : Around} {s : Shared} {h₀ h : Heap} {L K : Addr} {m : Str → Option Value} {l rest news : List (Addr × Obj)} {Q E : Value → Shared → Prop}

theorem seqKey_acc {x d : Addr} {vs : List Value} {n : Nat} {k : Value} {name : Str} {Q : Value → Shared → Prop} (X : (hd.heap_1 w.params).In s.heap) (hx : s.heap.get? x = some (accObj d vs n)) (h : Q k s) : wpAny (model PP w) A (sequenceKey (.ref x) k name) Q E s := by
  have ht := acc_type (M := model PP w) hx
  have hq : Looks (model PP w) s.heap (isSubtype (.ref 220) (.type "collections.deque")) false := looks_subIn X (by k_is)
  unfold sequenceKey
  refine wpAny_bind (ht.here ?_)
  dsimp only
  unfold seqItemTypes
  refine wpAny_bind ?_
  simp only [List.anyM]
  refine wpAny_bind (hq.here ?_)
  exact wpAny_pure (wpAny_pure h)

/-- the tail of a reading by a key, where the class is the accumulator's -/
theorem tail_acc {value slice : PySem.Expr} {x d : Addr} {vs : List Value} {n : Nat} {i : Value} {ops : List Value} (X : (hd.heap_1 w.params).In s.heap) (hx : s.heap.get? x = some (accObj d vs n)) (h : wpAny (model PP w) A (getItem (.ref x) i) Q E s)
    (hs : subscripted slice false (.ref x) i = operate ops (getItem (.ref x) i)) : wpAny (model PP w) A (subscriptTail value slice (.ref x) i) Q E s := by
  have ht := acc_type (M := model PP w) hx
  have hf : Looks (model PP w) s.heap (typeLookup (.ref 220) "__getitem__") (some (.builtin "list.__getitem__")) := looks_findIn X (by k_is)
  unfold subscriptTail
  refine wpAny_bind ?_
  rw [getitemInPython_of_ne (by intro e; cases e)]
  unfold specialOf
  refine wpAny_bind (wpAny_bind (ht.here (hf.here ?_)))
  refine wpAny_pure (wpAny_bind ?_)
  rw [hs]
  exact wpAny_operating (wpAny_mono h (fun r s₃ h₃ => wpAny_bind (wpAny_letTemporaryGo (wpAny_pure h₃))) fun _ _ x => x)

/-- what is asked by a key of an accumulator is asked of the built-in -/
theorem getItem_acc {x d : Addr} {vs : List Value} {n : Nat} {i : Value} (X : (hd.heap_1 w.params).In s.heap) (hx : s.heap.get? x = some (accObj d vs n))
    (h : wpAny (model PP w) A.in1 (Builtin.«list.__getitem__» ⟨[.ref x, i], []⟩) (fun fin s' => ∃ v, fin = .done (.ret v) ∧ Q v s') E s) : wpAny (model PP w) A (getItem (.ref x) i) Q E s := by
  have ht := acc_type (M := model PP w) hx
  have hf : Looks (model PP w) s.heap (typeLookup (.ref 220) "__getitem__") (some (.builtin "list.__getitem__")) := looks_findIn X (by k_is)
  unfold getItem
  refine wpAny_holding (wpAny_bind (seqKey_acc X hx ?_))
  unfold callSpecial? specialOf
  refine wpAny_bind (wpAny_bind (wpAny_bind (ht.here (hf.here (wpAny_holding ?_)))))
  rw [slot_list_getitem.bind (.ref x)]
  refine wpAny_bind (wpAny_pure (wpAny_bind (call_meth (i := "list.__getitem__") (owner := "list") (n := "__getitem__") kind_lgi split_lgi plain_lgi entry_list_getitem (acc_isi X hx) (args_list_getitem _ _) (wpAny_mono h (fun fin s' hf => ?_) fun _ _ e => e))))
  obtain ⟨v, rfl, hv⟩ := hf
  exact ⟨v, rfl, wpAny_pure (wpAny_pure hv)⟩

theorem setItem_acc {x d : Addr} {vs : List Value} {n : Nat} {i v : Value} {Q : Unit → Shared → Prop} (X : (hd.heap_1 w.params).In s.heap) (hx : s.heap.get? x = some (accObj d vs n))
    (h : wpAny (model PP w) A.in1 (Builtin.«list.__setitem__» ⟨[.ref x, i, v], []⟩) (fun fin s' => ∃ v, fin = .done (.ret v) ∧ Q () s') E s) : wpAny (model PP w) A (setItem (.ref x) i v) Q E s := by
  have ht := acc_type (M := model PP w) hx
  have hf : Looks (model PP w) s.heap (typeLookup (.ref 220) "__setitem__") (some (.builtin "list.__setitem__")) := looks_findIn X (by k_is)
  unfold setItem
  refine wpAny_holding (wpAny_bind (seqKey_acc X hx ?_))
  unfold callSpecial? specialOf
  refine wpAny_bind (wpAny_bind (wpAny_bind (ht.here (hf.here (wpAny_holding ?_)))))
  rw [slot_list_setitem.bind (.ref x)]
  refine wpAny_bind (wpAny_pure (wpAny_bind (call_slot (i := "list.__setitem__") (owner := "list") (n := "__setitem__") kind_lsi split_lsi plain_lsi entry_list_setitem (acc_isi X hx) (args_list_setitem _ _ _) (wpAny_mono h (fun fin s' hf => ?_) fun _ _ e => e))))
  obtain ⟨v, rfl, hv⟩ := hf
  exact ⟨v, rfl, wpAny_pure (wpAny_pure hv)⟩

theorem getBody_int {x : Addr} {vs : List Value} {k : Int} {t : Tok} {v : Value} {Q : Fin → Shared → Prop} (hx : SeqAt s.heap x vs) (h0 : 0 ≤ k) (hz : k < 2 ^ 63) (hk : vs[k.toNat]? = some v) (h : Q (.done (.ret v)) s) :
    wpAny (model PP w) A (Builtin.«list.__getitem__» ⟨[.ref x, .int k t], []⟩) Q E s := by
  obtain ⟨o, n, ho, hd⟩ := hx
  show wpAny _ _ (Builtin.List.listSubscript? (.int k t) >>= _) _ _ s
  refine wpAny_bind (wpAny_listSubscript_int (fitsIndex_of h0 hz) ?_)
  clear hz
  obtain ⟨j, rfl⟩ := Int.eq_ofNat_of_zero_le h0
  show wpAny _ _ ((seqItemAt x j >>= fun r => pure (r.map (j, ·))) >>= _) _ _ s
  refine wpAny_bind (wpAny_bind (wpAny_seqItemAt ho hd (wpAny_pure ?_)))
  have hk' : vs.toArray[j]? = some v := by simpa using hk
  rw [hk']
  first
    | exact wpAny_bind (wpAny_pure (wpAny_pure h))
    | exact wpAny_pure h

theorem cutJoin (vs us : List Value) (a b : Nat) : (vs.toArray.extract 0 a ++ us.toArray ++ vs.toArray.extract b).toList = vs.take a ++ us ++ vs.drop b := by
  simp
  exact List.take_of_length_le (by simp)
theorem getBody_slice {x sl : Addr} {vs : List Value} {vl vu : Value} {lo hi : Option Int} {Q : Fin → Shared → Prop} (hx : SeqAt s.heap x vs) (hs : s.heap.IsSliceOf sl vl vu .none) (pl : IsPart vl lo) (pu : IsPart vu hi) (hz : vs.length ≤ 1000)
    (h : Q (.done (.ret (.ref s.heap.objs.size))) { s with heap := s.heap.push { cls := .type "list", data := .seq (slicePick vs.toArray lo hi none) } }) : wpAny (model PP w) A (Builtin.«list.__getitem__» ⟨[.ref x, .ref sl], []⟩) Q E s := by
  obtain ⟨o, ne, ho, hd⟩ := hx
  obtain ⟨os, hos, hcs, hds⟩ := id hs
  have hTs : s.TypeIs (.ref sl) "slice" := ⟨os, hos, hcs⟩
  show wpAny _ _ (Builtin.List.listSubscript? (.ref sl) >>= _) _ _ s
  refine wpAny_bind ?_
  unfold Builtin.List.listSubscript?
  refine wpAny_bind (wpAny_specialOf hTs slice_no_index ?_)
  simp only [Option.isNone_none, if_true]
  refine wpAny_pure ?_
  show wpAny _ _ (typeOf (.ref sl) >>= _) _ _ s
  refine wpAny_bind (wpAny_typeOf hTs ?_)
  rw [if_neg (by decide)]
  rw [listSliceParts_eq]
  refine wpAny_bind (wpAny_bind (wpAny_field hos hds (x := .none) rfl (wpAny_bind (wpAny_listPart .none ?_))))
  rw [if_neg (show ¬ ((rawPart none == rawInt 0) = true) from Bool.false_ne_true)]
  refine wpAny_bind (wpAny_field hos hds (x := vl) rfl (wpAny_bind (wpAny_listPart pl ?_)))
  refine wpAny_bind (wpAny_field hos hds (x := vu) rfl (wpAny_bind (wpAny_listPart pu (wpAny_pure ?_))))
  refine wpAny_bind (m := Builtin.List.listItems (.ref x)) ?_
  unfold Builtin.List.listItems
  refine wpAny_bind (wpAny_seqItems ho hd (wpAny_pure ?_))
  refine wpAny_bind (wpAny_of_eq (sliceIndices_raw lo hi none _ (by simp)) ?_)
  exact wpAny_bind (wpAny_newObj_type (wpAny_pure h) (Nat.le_trans (slicePick_size_le _ lo hi none) (by rw [List.size_toArray, sizeLine_eq]; omega)))

theorem setBody {x sl y : Addr} {ox : Obj} {vs us : List Value} {n : Nat} {vl vu : Value} {lo hi : Option Int} {a b : Nat} {Q : Fin → Shared → Prop} (hx : s.heap.get? x = some ox) (hd : ox.data = .seq vs.toArray n) (hs : s.heap.IsSliceOf sl vl vu .none)
    (pl : IsPart vl lo) (pu : IsPart vu hi) (hy : s.heap.IsList y us.toArray) (hxy : x ≠ y) (e : sliceBounds lo hi none vs.length = ((a : Int), (b : Int), 1)) (hab : a ≤ b) (hz : vs.length + us.length ≤ 1000)
    (h : Q (.done (.ret .none)) { s with heap := s.heap.update x (Obj.mapSeq fun xs => xs.extract 0 a ++ us.toArray ++ xs.extract b) }) : wpAny (model PP w) A (Builtin.«list.__setitem__» ⟨[.ref x, .ref sl, .ref y], []⟩) Q E s := by
  obtain ⟨os, hos, hcs, hds⟩ := id hs
  obtain ⟨oy, hoy, hcy, ny, hdy⟩ := id hy
  have hTs : s.TypeIs (.ref sl) "slice" := ⟨os, hos, hcs⟩
  unfold Builtin.«list.__setitem__»
  refine wpAny_bind (wpAny_of_eq (a := (.ref x, [.ref sl, .ref y])) (by kernel_rfl) ?_)
  dsimp only
  refine wpAny_bind ?_
  unfold Builtin.List.listSubscript?
  refine wpAny_bind (wpAny_specialOf hTs slice_no_index ?_)
  simp only [Option.isNone_none, if_true]
  refine wpAny_pure ?_
  dsimp only
  refine wpAny_bind (wpAny_typeOf hTs ?_)
  rw [if_neg (by decide)]
  rw [listSliceParts_eq]
  refine wpAny_bind (wpAny_bind (wpAny_field hos hds (x := .none) rfl (wpAny_bind (wpAny_listPart .none ?_))))
  rw [if_neg (show ¬ ((rawPart none == rawInt 0) = true) from Bool.false_ne_true)]
  refine wpAny_bind (wpAny_field hos hds (x := vl) rfl (wpAny_bind (wpAny_listPart pl ?_)))
  refine wpAny_bind (wpAny_field hos hds (x := vu) rfl (wpAny_bind (wpAny_listPart pu (wpAny_pure ?_))))
  dsimp only
  have hne : Builtin.List.listSameRef (.ref x) (.ref y) = false := by simp [Builtin.List.listSameRef, hxy]
  rw [if_neg (by rw [hne]; exact Bool.false_ne_true)]
  refine wpAny_bind (m := Builtin.List.listAllItems (.ref y) _) ?_
  unfold Builtin.List.listAllItems
  refine wpAny_bind (wpAny_typeOf (T := "list") ⟨oy, hoy, hcy⟩ ?_)
  rw [if_pos (by decide)]
  unfold Builtin.List.listItems
  refine wpAny_bind (wpAny_seqItems hoy hdy (wpAny_pure ?_))
  refine wpAny_bind (wpAny_bind (wpAny_seqItems hx hd (wpAny_pure ?_)))
  have hb : sliceIndices (rawPart lo) (rawPart hi) (rawPart none) vs.toArray.size = pure ((a : Int), (b : Int), 1) := by
    rw [sliceIndices_raw lo hi none _ (by simp), List.size_toArray, e]
  refine wpAny_bind (wpAny_of_eq hb ?_)
  dsimp only
  rw [if_pos (by decide)]
  refine wpAny_bind (wpAny_rule ?_)
  have ht : Builtin.List.listTooLong (vs.toArray.size + us.toArray.size) = false := by
    unfold Builtin.List.listTooLong
    rw [sizeLine_eq]
    simp
    omega
  rw [if_neg (by rw [ht]; exact Bool.false_ne_true)]
  have hm : (max (a : Int) (b : Int)).toNat = b := by omega
  rw [hm]
  show wpAny _ _ (updateSeq x (fun xs => xs.extract 0 a ++ us.toArray ++ xs.extract b) >>= _) _ _ _
  have hsz : (vs.toArray.extract 0 a ++ us.toArray ++ vs.toArray.extract b).size ≤ sizeLine := by
    rw [← Array.length_toList, cutJoin, sizeLine_eq]
    simp
    omega
  refine wpAny_bind (wpAny_updateSeq hx hd ?_ (by rw [List.size_toArray, sizeLine_eq]; omega) (Nat.le_succ_of_le hsz))
  exact wpAny_bind (wpAny_letGo (wpAny_pure h))

/-- a slice of an accumulator is written: the ledger behind it -/
theorem setSlice_acc {x d sl y : Addr} {vs us : List Value} {n i : Nat} {vl vu : Value} {lo hi : Option Int} {a b : Nat} {Q : Unit → Shared → Prop} (W : Wd w mg mb h₀) (G : Lg h₀ L m s.heap news) (hi1 : news[i]? = some (x, accObj d vs n)) (hs : s.heap.IsSliceOf sl vl vu .none)
    (pl : IsPart vl lo) (pu : IsPart vu hi) (hy : s.heap.IsList y us.toArray) (e : sliceBounds lo hi none vs.length = ((a : Int), (b : Int), 1)) (hab : a ≤ b) (hz : vs.length + us.length ≤ 1000)
    (h : ∀ h' n', Lg h₀ L m h' (news.set i (x, accObj d (vs.take a ++ us ++ vs.drop b) n')) → Q () { s with heap := h' }) : wpAny (model PP w) A (setItem (.ref x) (.ref sl) (.ref y)) Q E s := by
  have hx := G.get hi1
  have hxy : x ≠ y := fun q => by
    obtain ⟨o, ho, hc, _⟩ := hy
    rw [← q, hx] at ho
    cases ho
    cases hc
  refine setItem_acc (W.X.keeps G.fr.keep) hx (setBody (ox := accObj d vs n) hx rfl hs pl pu hy hxy e hab hz ⟨_, rfl, ?_⟩)
  obtain ⟨n', q⟩ := mapSeq_acc d vs n (fun xs => xs.extract 0 a ++ us.toArray ++ xs.extract b)
  rw [cutJoin] at q
  have := G.update hi1 (f := Obj.mapSeq fun xs => xs.extract 0 a ++ us.toArray ++ xs.extract b) (by rw [q]; rfl)
  rw [q] at this
  exact h _ n' this

theorem bounds_from (k n : Nat) (h : k ≤ n) : sliceBounds (some (k : Int)) none none n = ((k : Int), (n : Int), 1) := by
  simp only [sliceBounds, Option.getD_none, show (1 : Int) > 0 by decide, if_true, if_neg (show ¬ ((k : Int) < 0) by omega)]
  congr 1
  omega
theorem bounds_all (n : Nat) : sliceBounds none none none n = (((0 : Nat) : Int), (n : Int), 1) := by
  simp [sliceBounds]
theorem bounds_upto0 (n : Nat) : sliceBounds none (some 0) none n = (((0 : Nat) : Int), ((0 : Nat) : Int), 1) := by
  simp [sliceBounds]
  omega

theorem c_popfrom {x d : Addr} {vs : List Value} {k : Nat} {tk : Tok} (ha : Acc x d vs l) (hk : k ≤ vs.length) (R : Rm A 3) (W : Wd w mg mb h₀) (G : Lg h₀ L m s.heap (l ++ rest))
    (h : ∀ s' p l' n, Acc x d (vs.take k) l' → Bk s h₀ L m l rest s' ((p, listO (vs.drop k) n) :: l') → Q (.ref p) s') : wpAny (model PP w) A (call (.ref 172) [.ref x, .int k tk]) Q E s := by
  have ha0 := ha
  obtain ⟨n, hk', tk', tz, k', t1, t2, rfl, ok1, ok2, hl⟩ := ha
  refine call_def (cl := []) (binds := [("self", .ref x), ("i", .int k tk)]) W G (by k_is) rfl (by k_is) R.room (binds_K (W.X.keeps G.fr.keep) rfl (by k_is) rfl rfl rfl) (by rfl) ?_ (by decide)
  intro g L' h₁ W' kp G' back
  refine wpAny_execs_cons ?_
  refine wpAny_Assign_Name ?_
  refine Subscript_ ?_
  refine nameX_L G'.fr rfl ?_
  refine wpAny_Slice ?_
  rw [evalPart_some]
  refine nameX_L G'.fr rfl ?_
  rw [evalPart_none]
  refine wpAny_pure ?_
  refine wpAny_pure ?_
  have G2 := G'.alloc { cls := .type "slice", data := .fields #[.int k tk, .none, .none] }
  have X2 := W'.X.keeps G2.fr.keep
  have hx2 := G2.get (i := 1) rfl
  have hs2 : (h₁.push { cls := .type "slice", data := .fields #[.int k tk, .none, .none] }).IsSliceOf h₁.objs.size (.int k tk) .none .none := ⟨_, G2.get (i := 0) rfl, rfl, rfl⟩
  refine tail_acc X2 hx2 ?_ rfl
  refine getItem_acc X2 hx2 ?_
  refine getBody_slice (vs := vs) ⟨_, _, hx2, rfl⟩ hs2 (.int _ _) .none (by omega) ⟨_, rfl, ?_⟩
  rw [slicePick_from vs.toArray k (by simpa using hk)]
  have G3 := G2.alloc (listO (vs.drop k) 0)
  refine storeX_L G3.fr G3.nw fun h₄ F4 N4 => ?_
  have G4 : Lg g L' _ h₄ _ := ⟨F4, N4, G3.nd⟩
  dsimp only
  refine wpAny_execs_cons ?_
  refine wpAny_Assign_Subscript ?_
  refine List_ ?_
  refine spliced_none ?_
  have G5 := G4.alloc (listO [] 0)
  refine wpAny_newObj_type ?_
  refine nameX_L G5.fr rfl ?_
  refine wpAny_Slice ?_
  rw [evalPart_some]
  refine nameX_L G5.fr rfl ?_
  rw [evalPart_none]
  refine wpAny_pure ?_
  refine wpAny_pure ?_
  have G6 := G5.alloc { cls := .type "slice", data := .fields #[.int k tk, .none, .none] }
  refine setSlice_acc (us := []) W' G6 (i := 4) rfl ⟨_, G6.get (i := 0) rfl, rfl, rfl⟩ (.int _ _) .none ⟨_, G6.get (i := 1) rfl, rfl, _, rfl⟩ (bounds_from k vs.length hk) hk (by simp; omega) fun h₇ n₇ G7 => ?_
  rw [List.append_nil, List.drop_length, List.append_nil] at G7
  refine wpAny_execs_cons ?_
  refine wpAny_Return_some ?_
  refine nameX_L G7.fr rfl ?_
  have G8 : Lg g L' _ h₇ [_, (x, accObj d (vs.take k) n₇), (d, dictOf (isz hk' tk' (.int 0 tz)) k'), (182, tabO t1), (189, tabO t2)] := G7.drop (.cons _ (.cons _ (.cons₂ _ (.cons _ (.refl _)))))
  exact h _ _ _ _ ⟨_, _, _, _, _, _, _, rfl, ok1, ok2, by simp; omega⟩ (back _ _ _ G8 rfl id)
end
end Mine
end
section
open PySem PySem.W PyProof.Rows PySem.Calls PySem.Spec Builtin Builtin.ObjectAttr
set_option Elab.async false
set_option maxRecDepth 100000
set_option maxHeartbeats 4000000
set_option pp.maxSteps 6000
namespace Mine
theorem fill19 (w : World) (h₀ : Heap) : (hd.heap_1 w.params).In h₀ → PySem.Challenge.rw_zd0011_01.Holds → True := by k_fill; intros; trivial
section
variable {w : World} {mg mb : Str → Option Value} {A : Around} {s : Shared} {h₀ h : Heap} {L K : Addr} {m : Str → Option Value} {l rest news : List (Addr × Obj)} {Q E : Value → Shared → Prop}

theorem c_reset1 {x d y : Addr} {vs us : List Value} {ny : Nat} (ha : Acc x d vs l) (hy : s.heap.get? y = some (listO us ny)) (hu : us.length ≤ 100) (R : Rm A 3) (W : Wd w mg mb h₀) (G : Lg h₀ L m s.heap (l ++ rest))
    (h : ∀ s' l', Acc x d us l' → Bk s h₀ L m l rest s' l' → Q .none s') : wpAny (model PP w) A (call (.ref 202) [.ref x, .ref y]) Q E s := by
  have ha0 := ha
  obtain ⟨n, hk', tk', tz, k', t1, t2, rfl, ok1, ok2, hl⟩ := ha
  have hyn : y ∉ ([(x, accObj d vs n), (d, dictOf (isz hk' tk' (.int 0 tz)) k'), (182, tabO t1), (189, tabO t2)] : List (Addr × Obj)).map (·.1) := fun q => by
    obtain ⟨p, hp, e⟩ := List.mem_map.mp q
    have := (G.nw p (List.mem_append_left _ hp)).1
    rw [e, hy] at this
    have e2 := congrArg Obj.cls (Option.some.inj this)
    simp only [List.mem_cons, List.not_mem_nil, or_false] at hp
    rcases hp with rfl | rfl | rfl | rfl <;> exact absurd e2 (by simp)
  refine call_def (cl := []) (binds := [("self", .ref x), ("startval", .ref y)]) W G (by k_is) rfl (by k_is) R.room (binds_K (W.X.keeps G.fr.keep) rfl (by k_is) rfl rfl rfl) (by rfl) ?_ (by decide)
  intro g L' h₁ W' kp G' back
  have hy1 : h₁.get? y = some (listO us ny) := G'.fr.keep _ _ (kp _ _ hy hyn)
  refine wpAny_execs_cons ?_
  refine wpAny_If ?_
  refine wpAny_isTrue_Compare1 ?_
  refine nameX_L G'.fr rfl ?_
  refine Constant_none ?_
  refine is_ref_none ?_
  refine wpAny_truthy_bool ?_
  rw [if_neg (by decide)]
  refine wpAny_execs_nil ?_
  dsimp only
  refine wpAny_execs_cons ?_
  refine wpAny_Assign_Subscript ?_
  refine nameX_L G'.fr rfl ?_
  refine nameX_L G'.fr rfl ?_
  refine wpAny_Slice ?_
  rw [evalPart_none]
  refine wpAny_pure ?_
  refine wpAny_pure ?_
  refine wpAny_pure ?_
  have G6 := G'.alloc { cls := .type "slice", data := .fields #[.none, .none, .none] }
  refine setSlice_acc (us := us) W' G6 (i := 1) rfl ⟨_, G6.get (i := 0) rfl, rfl, rfl⟩ .none .none ⟨_, Heap.get?_push_of_some _ hy1, rfl, _, rfl⟩ (bounds_all vs.length) (Nat.zero_le _) (by omega) fun h₇ n₇ G7 => ?_
  rw [List.take_zero, List.nil_append, List.drop_length, List.append_nil] at G7
  dsimp only
  refine wpAny_execs_cons ?_
  refine plainObj_wpAny_Assign_Attribute ?_ (by with_unfolding_all rfl)
  refine wpAny_Constant_int ?_
  refine nameX_L G7.fr rfl ?_
  refine set_acc (es' := isz hk' tk' (.int 0 _)) W' G7 (i := 1) (j := 2) rfl rfl (by k_is) rfl rfl (by simp) fun h₈ G8 => ?_
  refine wpAny_execs_nil ?_
  exact h _ _ ⟨_, _, _, _, _, _, _, rfl, ok1, ok2, hu⟩ (back _ _ _ (G8.drop (.cons _ (.refl _))) rfl id)

theorem c_reset0 {x d : Addr} {vs : List Value} (ha : Acc x d vs l) (R : Rm A 3) (W : Wd w mg mb h₀) (G : Lg h₀ L m s.heap (l ++ rest))
    (h : ∀ s' l', Acc x d [] l' → Bk s h₀ L m l rest s' l' → Q .none s') : wpAny (model PP w) A (call (.ref 202) [.ref x]) Q E s := by
  have ha0 := ha
  obtain ⟨n, hk', tk', tz, k', t1, t2, rfl, ok1, ok2, hl⟩ := ha
  refine call_def (cl := []) (binds := [("self", .ref x), ("startval", .none)]) W G (by k_is) rfl (by k_is) R.room (binds_K (W.X.keeps G.fr.keep) rfl (by k_is) rfl rfl rfl) (by rfl) ?_ (by decide)
  intro g L' h₁ W' kp G' back
  refine wpAny_execs_cons ?_
  refine wpAny_If ?_
  refine wpAny_isTrue_Compare1 ?_
  refine nameX_L G'.fr rfl ?_
  refine Constant_none ?_
  refine wpAny_is_self rfl ?_
  refine wpAny_truthy_bool ?_
  rw [if_pos rfl]
  refine wpAny_execs_cons ?_
  refine wpAny_Assign_Name ?_
  refine List_ ?_
  refine spliced_none ?_
  have G1 := G'.alloc (listO [] 0)
  refine wpAny_newObj_type ?_
  refine storeX_L G1.fr G1.nw fun h₂ F2 N2 => ?_
  have G2 : Lg g L' _ h₂ _ := ⟨F2, N2, G1.nd⟩
  dsimp only
  refine wpAny_execs_nil ?_
  dsimp only
  refine wpAny_execs_cons ?_
  refine wpAny_Assign_Subscript ?_
  refine nameX_L G2.fr rfl ?_
  refine nameX_L G2.fr rfl ?_
  refine wpAny_Slice ?_
  rw [evalPart_none]
  refine wpAny_pure ?_
  refine wpAny_pure ?_
  refine wpAny_pure ?_
  have G6 := G2.alloc { cls := .type "slice", data := .fields #[.none, .none, .none] }
  refine setSlice_acc (us := []) W' G6 (i := 2) rfl ⟨_, G6.get (i := 0) rfl, rfl, rfl⟩ .none .none ⟨_, G6.get (i := 1) rfl, rfl, _, rfl⟩ (bounds_all vs.length) (Nat.zero_le _) (by simp; omega) fun h₇ n₇ G7 => ?_
  rw [List.take_zero, List.nil_append, List.drop_length, List.append_nil] at G7
  dsimp only
  refine wpAny_execs_cons ?_
  refine plainObj_wpAny_Assign_Attribute ?_ (by with_unfolding_all rfl)
  refine wpAny_Constant_int ?_
  refine nameX_L G7.fr rfl ?_
  refine set_acc (es' := isz hk' tk' (.int 0 _)) W' G7 (i := 2) (j := 3) rfl rfl (by k_is) rfl rfl (by simp) fun h₈ G8 => ?_
  refine wpAny_execs_nil ?_
  exact h _ _ ⟨_, _, _, _, _, _, _, rfl, ok1, ok2, by simp⟩ (back _ _ _ (G8.drop (.cons _ (.cons _ (.refl _)))) rfl id)
end
end Mine
end
section
open PySem PySem.W PyProof.Rows PySem.Calls PySem.Spec Builtin Builtin.ObjectAttr
set_option Elab.async false
set_option maxRecDepth 100000
set_option maxHeartbeats 4000000
set_option pp.maxSteps 6000
namespace Mine
theorem fill20 (w : World) (h₀ : Heap) : (hd.heap_1 w.params).In h₀ → PySem.Challenge.rw_zd0011_01.Holds → True := by k_fill; intros; trivial

theorem upd_of {d : Addr} {o o' : Obj} : ∀ {news : List (Addr × Obj)} {j : Nat}, (news.map (·.1)).Nodup → news[j]? = some (d, o) → Upd d o o' news (news.set j (d, o'))
  | p :: r, 0, nd, h => by
    cases h
    rw [List.map_cons, List.nodup_cons] at nd
    exact .head fun q hq e => nd.1 (e ▸ List.mem_map_of_mem (f := (·.1)) hq)
  | p :: r, j + 1, nd, h => by
    rw [List.map_cons, List.nodup_cons] at nd
    refine .tail (fun e => nd.1 ?_) (upd_of nd.2 h)
    have h2 : r[j]? = some (d, o) := by simpa using h
    have := List.mem_of_getElem? h2
    rw [e]
    exact List.mem_map_of_mem (f := (·.1)) this

section
variable {w : World} {mg mb : Str → Option Value} {A : Around} {s : Shared} {h₀ h : Heap} {L K : Addr} {m : Str → Option Value} {l rest news : List (Addr × Obj)} {Q E : Value → Shared → Prop}

theorem setL {x dx C : Addr} {ox : Obj} {es es' : List DictEntry} {n n' j : Nat} {v : Value} {name : Str} {E : Value → Shared → Prop} {Q : Unit → Shared → Prop} (W : Wd w mg mb h₀) (G : Lg h₀ L m s.heap news) (hj : news[j]? = some (dx, dictOf es n)) (I : InstAt s.heap x ox C (some (dictOf es n))) (hdx : ox.dict = some dx)
    (hs : findIn (hd.heap_1 w.params) (.ref C) "__setattr__" = some (some (.builtin "object.__setattr__"))) (hp : plainOver (hd.heap_1 w.params) C = true) (ht : takerIn (hd.heap_1 w.params) C name = some none) (hh : hasDictIn (hd.heap_1 w.params) C = true) (hl : (getL name es).isSome = true)
    (e : (putL name (PyData.keyHash w.params name) (.str name (s.toks + 1)) v es, putN name es n) = (es', n')) (hz : es'.length ≤ 1000)
    (h : ∀ h', Lg h₀ L m h' (news.set j (dx, dictOf es' n')) → Q () { s with heap := h', toks := s.toks + 2 }) : wpAny (model PP w) A (setAttr (.ref x) name v) Q E s := by
  have U := upd_of (o' := dictOf es' n') G.nd hj
  exact set_dict G.fr W.X G.nw I hdx hs hp ht hh hl e U hz fun h' F' N' => h h' ⟨F', N', by rw [set_map_fst hj]; exact G.nd⟩

theorem putL_new (name : Str) (hsh : Int) (key v : Value) : ∀ es : List DictEntry, es.any (·.key.isStr name) = false → putL name hsh key v es = es ++ [⟨hsh, key, v⟩]
  | [], _ => rfl
  | e :: r, h => by
    rw [List.any_cons, Bool.or_eq_false_iff] at h
    rw [putL, if_neg (by rw [h.1]; exact Bool.false_ne_true), putL_new name hsh key v r h.2]
    rfl
theorem setNew {x dx C : Addr} {ox : Obj} {es : List DictEntry} {n j : Nat} {v : Value} {name : Str} {E : Value → Shared → Prop} {Q : Unit → Shared → Prop} (W : Wd w mg mb h₀) (G : Lg h₀ L m s.heap news) (hj : news[j]? = some (dx, dictOf es n)) (I : InstAt s.heap x ox C (some (dictOf es n))) (hdx : ox.dict = some dx)
    (hs : findIn (hd.heap_1 w.params) (.ref C) "__setattr__" = some (some (.builtin "object.__setattr__"))) (hp : plainOver (hd.heap_1 w.params) C = true) (ht : takerIn (hd.heap_1 w.params) C name = some none) (hh : hasDictIn (hd.heap_1 w.params) C = true) (hl : (getL name es).isSome = true)
    (hnew : es.any (·.key.isStr name) = false) (hz : es.length < 1000)
    (h : ∀ h' hk tk tk', Lg h₀ L m h' (news.set j (dx, dictOf (es ++ [⟨hk, .str name tk, v⟩]) (n + 1))) → Q () { s with heap := h', toks := tk' }) : wpAny (model PP w) A (setAttr (.ref x) name v) Q E s :=
  setL (es' := es ++ [⟨PyData.keyHash w.params name, .str name (s.toks + 1), v⟩]) (n' := n + 1) W G hj I hdx hs hp ht hh hl (by rw [putL_new _ _ _ _ _ hnew]; unfold putN; rw [hnew]; rfl) (by rw [List.length_append]; exact hz) fun h' G' => h h' _ _ _ G'

theorem Lg.perm (G : Lg h₀ L m h news) {news' : List (Addr × Obj)} (p : news'.Perm news) : Lg h₀ L m h news' :=
  ⟨G.fr, fun q hq => G.nw q (p.mem_iff.mp hq), (p.map _).nodup_iff.mpr G.nd⟩

noncomputable abbrev mkE (a1 a2 a3 a4 a5 a6 : Int) (k1 k2 k3 k4 k5 k6 : Tok) (wd : Int) (tw ts tl tc : Tok) (ls x : Addr) : List DictEntry :=
  [⟨a1, .str (Str.ofString "_maxlen") k1, .int wd tw⟩, ⟨a2, .str (Str.ofString "_continuation_ws") k2, .str (Str.ofString " ") ts⟩, ⟨a3, .str (Str.ofString "_continuation_ws_len") k3, .int 1 tl⟩,
   ⟨a4, .str (Str.ofString "_splitchars") k4, .str (Str.ofString ",") tc⟩, ⟨a5, .str (Str.ofString "_lines") k5, .ref ls⟩, ⟨a6, .str (Str.ofString "_current_line") k6, .ref x⟩]
noncomputable abbrev mkObj (md : Addr) : Obj := instObj 136 md
/-- a maker at hand: its current line, its rows -/
noncomputable def Mk (mk md ls x d : Addr) (wd : Int) (lines vs : List Value) (l : List (Addr × Obj)) : Prop :=
  ∃ la n a1 a2 a3 a4 a5 a6 k1 k2 k3 k4 k5 k6 tw ts tl tc k, Acc x d vs la ∧ lines.length ≤ 100 ∧ l = la ++ [(ls, listO lines n), (mk, mkObj md), (md, dictOf (mkE a1 a2 a3 a4 a5 a6 k1 k2 k3 k4 k5 k6 wd tw ts tl tc ls x) k)]

theorem c_fmt {mk md : Addr} {t1 t2 : List Value} {wd : Int} {th tw ts tc : Tok} {R' : Result → Shared → Prop} (hsz : l = [(182, tabO t1), (189, tabO t2), (mk, mkObj md), (md, emptyDict)]) (ok1 : TriplesOk t1) (ok2 : TriplesOk t2) (R : Rm A 10) (W : Wd w mg mb h₀) (G : Lg h₀ L m s.heap (l ++ rest))
    (h : ∀ s' l' ls x d, Mk mk md ls x d wd [] [] l' → Bk s h₀ L m l rest s' l' → R' (.ok (.ret .none)) s') :
    codeAny (model PP w) A (.call (.ref 77) ⟨[.ref mk, .int 0 th, .int wd tw, .str (Str.ofString " ") ts, .str (Str.ofString ",") tc], []⟩) R' s := by
  subst hsz
  refine code_def (cl := []) (binds := [("self", .ref mk), ("headerlen", .int 0 th), ("maxlen", .int wd tw), ("continuation_ws", .str (Str.ofString " ") ts), ("splitchars", .str (Str.ofString ",") tc)]) W G (by k_is) rfl (by k_is) R.room (.of_eq rfl) (by rfl) ?_ (by decide)
  intro g L' h₁ W' kp G' back
  refine wpAny_execs_cons ?_
  refine plainObj_wpAny_Assign_Attribute ?_ (by with_unfolding_all rfl)
  refine nameX_L G'.fr rfl ?_
  refine nameX_L G'.fr rfl ?_
  refine setNew (C := 136) (ox := mkObj md) (es := []) W' G' (j := 3) rfl ⟨G'.get (i := 2) rfl, rfl, rfl, G'.get (i := 3) rfl⟩ rfl (by k_is) (by k_is) (by k_is) (by k_is) rfl rfl (by decide) fun h₂ a1 k1 tk2 G2 => ?_
  refine wpAny_execs_cons ?_
  refine plainObj_wpAny_Assign_Attribute ?_ (by with_unfolding_all rfl)
  refine nameX_L G2.fr rfl ?_
  refine nameX_L G2.fr rfl ?_
  refine setNew (C := 136) (ox := mkObj md) W' G2 (j := 3) rfl ⟨G2.get (i := 2) rfl, rfl, rfl, G2.get (i := 3) rfl⟩ rfl (by k_is) (by k_is) (by k_is) (by k_is) rfl rfl (by simp) fun h₃ a2 k2 tk3 G3 => ?_
  refine wpAny_execs_cons ?_
  refine plainObj_wpAny_Assign_Attribute ?_ (by with_unfolding_all rfl)
  refine Call_ ?_
  refine nameX_B G3.fr W'.X W'.T (by k_is) (by boot_by_name) (by decide) ?_
  refine PyProof.Rows.callWith_builtin1 (spliced_more (nameX_L G3.fr rfl (spliced_none ?_)))
  refine SBL.len (by decide) ?_
  refine nameX_L (s := ⟨h₃, _, _, _, _⟩) G3.fr rfl ?_
  refine setNew (s := ⟨h₃, _, _, _, _⟩) (C := 136) (ox := mkObj md) W' G3 (j := 3) rfl ⟨G3.get (i := 2) rfl, rfl, rfl, G3.get (i := 3) rfl⟩ rfl (by k_is) (by k_is) (by k_is) (by k_is) rfl rfl (by simp) fun h₄ a3 k3 tk4 G4 => ?_
  refine wpAny_execs_cons ?_
  refine plainObj_wpAny_Assign_Attribute ?_ (by with_unfolding_all rfl)
  refine nameX_L G4.fr rfl ?_
  refine nameX_L G4.fr rfl ?_
  refine setNew (C := 136) (ox := mkObj md) W' G4 (j := 3) rfl ⟨G4.get (i := 2) rfl, rfl, rfl, G4.get (i := 3) rfl⟩ rfl (by k_is) (by k_is) (by k_is) (by k_is) rfl rfl (by simp) fun h₅ a4 k4 tk5 G5 => ?_
  refine wpAny_execs_cons ?_
  refine plainObj_wpAny_Assign_Attribute ?_ (by with_unfolding_all rfl)
  refine List_ ?_
  refine spliced_none ?_
  have G6 := G5.alloc (listO [] 0)
  refine wpAny_newObj_type ?_
  refine nameX_L G6.fr rfl ?_
  refine setNew (C := 136) (ox := mkObj md) W' G6 (j := 4) rfl ⟨G6.get (i := 3) rfl, rfl, rfl, G6.get (i := 4) rfl⟩ rfl (by k_is) (by k_is) (by k_is) (by k_is) rfl rfl (by simp) fun h₇ a5 k5 tk7 G7 => ?_
  refine wpAny_execs_cons ?_
  refine plainObj_wpAny_Assign_Attribute ?_ (by with_unfolding_all rfl)
  refine Call_ ?_
  refine nameX_K G7.fr W'.X W'.T (by k_is) ?_
  refine callWith_K (W'.X.keeps G7.fr.keep) (by k_is) (spliced_more (nameX_L G7.fr rfl (spliced_none ?_)))
  have G8 : Lg g L' _ h₇ ([(182, tabO t1), (189, tabO t2)] ++ [(h₅.objs.size, listO [] 0), (mk, mkObj md), (md, dictOf _ _)]) := G7.perm (List.perm_middle (l₁ := [_, _]))
  refine ⟨W'.X.keeps G8.fr.keep, ?_⟩
  refine mk_acc ok1 ok2 W' G8 (by have := R.d; show A.depth + 1 + 4 < _; omega) fun x d s9 l9 ha9 B9 _ _ => ?_
  have ha0 := ha9
  obtain ⟨n, hk, tk, tz, k, t1', t2', rfl, ok1', ok2', hl⟩ := ha9
  have G9 := B9.lg
  refine nameX_L G9.fr rfl ?_
  refine setNew (C := 136) (ox := mkObj md) W' G9 (j := 6) rfl ⟨G9.get (i := 5) rfl, rfl, rfl, G9.get (i := 6) rfl⟩ rfl (by k_is) (by k_is) (by k_is) (by k_is) rfl rfl (by simp) fun h₁₀ a6 k6 tk10 G10 => ?_
  refine wpAny_execs_nil ?_
  refine h _ _ _ _ _ ⟨_, 0, a1, a2, a3, a4, a5, a6, k1, k2, k3, k4, k5, k6, _, _, _, _, _, ha0, by simp, rfl⟩ (back _ _ _ G10 B9.os B9.gn)
end
end Mine
end
section
open PySem PySem.W PyProof.Rows PySem.Calls PySem.Spec Builtin Builtin.ObjectAttr
set_option Elab.async false
set_option maxRecDepth 100000
set_option maxHeartbeats 4000000
set_option pp.maxSteps 6000
namespace Mine
theorem fill21 (w : World) (h₀ : Heap) : (hd.heap_1 w.params).In h₀ → PySem.Challenge.rw_zd0011_01.Holds → True := by k_fill; intros; trivial
theorem cu_tc (a : List Value) : (Code.builtin "type.__call__" ⟨a, []⟩).cUnits = 1 := by kernel_rfl
section
variable {w : World} {mg mb : Str → Option Value} {A : Around} {s : Shared} {h₀ h : Heap} {L K : Addr} {m : Str → Option Value} {l rest news : List (Addr × Obj)} {Q E : Value → Shared → Prop}

theorem mk_fmt {t1 t2 : List Value} {wd : Int} {th tw ts tc : Tok} (ok1 : TriplesOk t1) (ok2 : TriplesOk t2) (R : Rm A 11) (W : Wd w mg mb h₀) (G : Lg h₀ L m s.heap ([(182, tabO t1), (189, tabO t2)] ++ rest))
    (h : ∀ mk md ls x d s' l', Mk mk md ls x d wd [] [] l' → Bk s h₀ L m [(182, tabO t1), (189, tabO t2)] rest s' l' → Q (.ref mk) s') :
    wpAny (model PP w) A (call (.ref 136) [.int 0 th, .int wd tw, .str (Str.ofString " ") ts, .str (Str.ofString ",") tc]) Q E s := by
  obtain ⟨hh, g, dr, t, os⟩ := s
  dsimp only at G h
  have X := W.X.keeps G.fr.keep
  refine wpAny_call (make_core (init := .ref 77) (makes_of X (by k_is)) (looks_findIn X (by k_is)) (fun self => bind_fn X self (by k_is)) (.inl rfl) ?_)
  have G1 := (G.alloc emptyDict).alloc (instObj 136 hh.objs.size)
  rw [Heap.size_push] at G1
  have G2 : Lg h₀ L m ((hh.push emptyDict).push (instObj 136 hh.objs.size)) ([(182, tabO t1), (189, tabO t2), (hh.objs.size + 1, mkObj hh.objs.size), (hh.objs.size, emptyDict)] ++ rest) :=
    G1.perm (((List.perm_middle (l₁ := [_, _])).trans (.cons _ (List.perm_middle (l₁ := [_, _])))))
  have R' : Rm (A.under (.builtin "type.__call__" ⟨[.ref 136, .int 0 th, .int wd tw, .str (Str.ofString " ") ts, .str (Str.ofString ",") tc], []⟩)) 10 := ⟨R.h, by have := R.d; show A.depth + 1 + 10 < _; omega, by have := R.u; have cu := cu_tc [.ref 136, .int 0 th, .int wd tw, .str (Str.ofString " ") ts, .str (Str.ofString ",") tc]; show A.units + _ + 100 < _; rw [cu]; omega⟩
  refine c_fmt rfl ok1 ok2 R' W G2 fun s' l' ls x d hm B => ⟨rfl, ?_⟩
  refine h _ _ _ _ _ _ _ hm ⟨B.lg, fun b o e q => B.kp b o (Heap.get?_push_of_some _ (Heap.get?_push_of_some _ e)) ?_, B.os, B.gn⟩
  have := Heap.lt_size e
  simp only [List.map_cons, List.map_nil, List.mem_cons, List.not_mem_nil, or_false, not_or] at q ⊢
  exact ⟨q.1, q.2, Nat.ne_of_lt (Nat.lt_succ_of_lt this), Nat.ne_of_lt this⟩
end
end Mine
end
section
open PySem PySem.W PyProof.Rows PySem.Calls PySem.Spec Builtin Builtin.ObjectAttr
set_option Elab.async false
set_option maxRecDepth 100000
set_option maxHeartbeats 4000000
set_option pp.maxSteps 6000
namespace Mine
theorem fill22 (w : World) (h₀ : Heap) : (hd.heap_1 w.params).In h₀ → PySem.Challenge.rw_zd0011_01.Holds → True := by k_fill; intros; trivial
section
variable {w : World} {mg mb : Str → Option Value} {A : Around} {s : Shared} {h₀ h : Heap} {L K : Addr} {m : Str → Option Value} {l la r rest news : List (Addr × Obj)} {Q E : Value → Shared → Prop}

theorem Lg.getR (G : Lg h₀ L m h (la ++ r)) {i : Nat} {a : Addr} {o : Obj} (hi : r[i]? = some (a, o)) : h.get? a = some o := (G.nw _ (List.mem_append_right _ (List.mem_of_getElem? hi))).1
theorem app_get {i : Nat} {p : Addr × Obj} (hi : r[i]? = some p) : (la ++ r)[la.length + i]? = some p := by
  rw [List.getElem?_append_right (Nat.le_add_right _ _), Nat.add_sub_cancel_left]; exact hi
theorem app_set (i : Nat) (p : Addr × Obj) : (la ++ r).set (la.length + i) p = la ++ r.set i p := by
  rw [List.set_append_right _ _ (Nat.le_add_right _ _), Nat.add_sub_cancel_left]

theorem mapSeq_list (vs : List Value) (n : Nat) (f : Array Value → Array Value) : ∃ n', Obj.mapSeq f (listO vs n) = listO (f vs.toArray).toList n' := by
  obtain ⟨n', e⟩ := Obj.data_mapSeq (o := listO vs n) rfl f
  refine ⟨n', ?_⟩
  unfold Obj.mapSeq listO at *
  simp_all

theorem lst_append {a : Addr} {vs : List Value} {n i : Nat} {v : Value} (G : Lg h₀ L m s.heap (la ++ r)) (hi : r[i]? = some (a, listO vs n)) (hz : vs.length ≤ 1000)
    (h : ∀ h' n', Lg h₀ L m h' (la ++ r.set i (a, listO (vs ++ [v]) n')) → Heap.SameBut a s.heap h' → Q .none { s with heap := h' }) : wpAny (model PP w) A (call (.builtin "list.append") [.ref a, v]) Q E s := by
  have hx := G.getR hi
  refine call_meth (i := "list.append") (owner := "list") (n := "append") (by decide +kernel) (by decide +kernel) PySem.F.slot_list_append.plain PySem.F.entry_list_append ((Looks.ld (part := none) hx).andThen (Looks.of_pure sub_list_self)) (PySem.F.args_list_append_2 _ _) ?_
  show wpAny _ _ (updateSeq a (·.push v) >>= fun _ => ret .none) _ _ s
  refine wpAny_bind (wpAny_updateSeq hx rfl (wpAny_pure ⟨.none, rfl, ?_⟩) (by rw [List.size_toArray, sizeLine_eq]; omega) (by simp only [Array.size_push, List.size_toArray]; rw [sizeLine_eq]; omega))
  obtain ⟨n', e⟩ := mapSeq_list vs n (·.push v)
  refine h _ n' ?_ (Heap.SameBut.update ..)
  have := G.update (app_get (la := la) hi) (f := Obj.mapSeq (·.push v)) (by rw [e]; rfl)
  rw [e, app_set] at this
  simpa using this

theorem Acc.instL {x d : Addr} {vs : List Value} (ha : Acc x d vs la) (G : Lg h₀ L m h (la ++ r)) : ∃ n hk tk tz k, PySem.W.InstAt h x (accObj d vs n) 220 (some (dictOf (isz hk tk (.int 0 tz)) k)) := by
  obtain ⟨n, hk, tk, tz, k, t1, t2, rfl, ok1, ok2, hl⟩ := ha
  exact ⟨n, hk, tk, tz, k, accInst (G.get (i := 0) rfl) (G.get (i := 1) rfl)⟩

theorem ne_pair {a b : Addr} {f p : Str} {tf tp t1 t2 : Tok} (ha : s.heap.get? a = some (tupObj [.str f tf, .str p tp])) (hb : s.heap.get? b = some (tupObj [.str (Str.ofString " ") t1, .str (Str.ofString "") t2]))
    (h1 : PyData.strOk f = true) (h2 : PyData.strOk p = true) (hne : ¬ (f = Str.ofString " " ∧ p = Str.ofString "")) (hu : A.units + 64 < cLine) (h : Q (.bool true) s) : wpAny (model PP w) A (compareOp .NotEq (.ref a) (.ref b)) Q E s := by
  have ra : Reads s.heap (.ref a) (.tuple [.str f, .str p]) [] := .tuple ha rfl rfl (.cons (.str _ _) (.cons (.str _ _) .nil))
  have rb : Reads s.heap (.ref b) (.tuple [.str (Str.ofString " "), .str (Str.ofString "")]) [] := .tuple hb rfl rfl (.cons (.str _ _) (.cons (.str _ _) .nil))
  refine ne_dataH ra rb ?_ ?_ hu ?_
  · simp [SeqAt.shaped, PyData.canLay0, PyData.canLayAll0, PyData.depth, PyData.depthAll, h1, h2]
  · decide +kernel
  · have : PyData.eqv (.tuple [.str f, .str p]) (.tuple [.str (Str.ofString " "), .str (Str.ofString "")]) = false := by
      simp [PyData.eqv, PyData.eqvAll]
      exact fun q r => hne ⟨q, r⟩
    rw [this]
    exact h

/-- a method of the accumulator's, read off it -/
theorem acc_bound {x d f : Addr} {vs : List Value} {n k : Nat} {es : List DictEntry} {name : Str} {expr : Bool} (X : (hd.heap_1 w.params).In s.heap) (hx : s.heap.get? x = some (accObj d vs n)) (hdd : s.heap.get? d = some (dictOf es k))
    (hf : findIn (hd.heap_1 w.params) (.ref 220) name = some (some (.ref f))) (hty : typeIn (hd.heap_1 w.params) (.ref f) = some (.type "function")) (hgf : specialIn (hd.heap_1 w.params) (.ref f) "__get__" = some (some (.builtin "function.__get__"))) (ht : takesIn (hd.heap_1 w.params) (.ref f) = some false)
    (hc : copiedNames.contains name = false) (hl : getL name es = some none) (h : Q (.ref s.heap.objs.size) { s with heap := s.heap.push (methodObj (.ref f) (.ref x)), toks := s.toks + 1 }) : wpAny (model PP w) A (getAttr (.ref x) name expr) Q E s := by
  have I := accInst hx hdd
  have hfo : findObj (hd.heap_1 w.params) 220 (some (dictOf es k)) name = some (.bind (.builtin "function.__get__") (.ref f)) := findObj_fn (by k_is) hf hgf ht hc (by show lookIn name (dictOf es k) = _; rw [lookIn_dict, hl])
  have L0 := I.type (M := model PP w)
  have L1 := looks_find (M := model PP w) X I hfo
  have ga : Looks (model PP w) s.heap (typeLookup (.ref 220) "__getattribute__") (some (.builtin "list.__getattribute__")) := looks_findIn X (by k_is)
  have gh : Looks (model PP w) s.heap (typeLookup (.ref 220) "__getattr__") none := looks_findIn X (by k_is)
  obtain ⟨hh, g, dr, t, os⟩ := s
  dsimp only at X hx hdd I L0 L1 ga gh h
  unfold getAttr getAttrBy
  refine wpAny_bind (wpAny_mkText (wpAny_holding (wpAny_bind (L0.at (wpAny_bind (ga.at ?_))))))
  show wpAny _ _ (getAttrByItsOwn (.ref x) (.str name t) (.ref 220) (.builtin "list.__getattribute__") true expr) _ _ _
  unfold getAttrByItsOwn hookBefore callGetattribute boundAndCalled
  refine wpAny_bind ?_
  show wpAny _ _ (typeLookup (.ref 220) "__getattr__") _ _ _
  refine gh.at ?_
  refine wpAny_bind (wpAny_attempt (wpAny_holding ?_))
  rw [show (expr && onTheHeap (.builtin "list.__getattribute__")) = false from by cases expr <;> rfl, if_neg (by decide)]
  rw [PySem.F.slot_list_getattribute.bind (.ref x)]
  refine wpAny_bind (wpAny_pure ?_)
  refine wpAny_mono (Q := fun v' s' => v' = .ref hh.objs.size ∧ s' = ⟨hh.push (methodObj (.ref f) (.ref x)), g, dr, t + 1, os⟩) (E := fun _ _ => False) (call_slot (i := "list.__getattribute__") (owner := "list") (n := "__getattribute__") kind_lga split_lga plain_lga PySem.F.entry_list_ga (acc_isi X hx) (PySem.F.args_list_getattribute_2 _ _) ?_) (fun v' s' hv' => ?_) fun _ _ z => z.elim
  · unfold Builtin.«object.__getattribute__»
    refine wpAny_bind (wpAny_of_eq (a := (.ref x, [.str name t])) (by kernel_rfl) ?_)
    dsimp only
    refine wpAny_bind (wpAny_of_eq (a := name) (by rfl) ?_)
    refine wpAny_bind (L0.at (wpAny_bind (L1.at ?_)))
    show wpAny _ _ (holding [.ref f] (call (.builtin "function.__get__") [.ref f, .ref x, .ref 220]) >>= ret) _ _ _
    exact wpAny_bind (wpAny_holding (wpAny_call (fn_get (s := ⟨hh, g, dr, t + 1, os⟩) X hty (wpAny_pure ⟨_, rfl, rfl, rfl⟩))))
  · obtain ⟨rfl, rfl⟩ := hv'
    exact wpAny_pure h
end
end Mine
end
section
open PySem PySem.W PyProof.Rows PySem.Calls PySem.Spec Builtin Builtin.ObjectAttr
set_option Elab.async false
set_option maxRecDepth 100000
set_option maxHeartbeats 4000000
set_option pp.maxSteps 6000
namespace Mine
theorem fill23 (w : World) (h₀ : Heap) : (hd.heap_1 w.params).In h₀ → PySem.Challenge.rw_zd0011_01.Holds → True := by k_fill; intros; trivial
section
variable {w : World} {mg mb : Str → Option Value} {A : Around} {s : Shared} {h₀ h : Heap} {L K : Addr} {m : Str → Option Value} {l la r rest news : List (Addr × Obj)} {Q E : Value → Shared → Prop}

theorem Mk.notup {mk md ls x d : Addr} {wd : Int} {lines vs : List Value} (hm : Mk mk md ls x d wd lines vs l) : ∀ p ∈ l, ∀ us, p.2 ≠ tupObj us := by
  obtain ⟨la, n, a1, a2, a3, a4, a5, a6, k1, k2, k3, k4, k5, k6, tw, ts, tl, tc, k, ha, hl, rfl⟩ := hm
  intro p hp us e
  rcases List.mem_append.mp hp with hp | hp
  · exact ha.notup p hp us e
  · simp only [List.mem_cons, List.not_mem_nil, or_false] at hp
    rcases hp with rfl | rfl | rfl <;> exact absurd (congrArg Obj.cls e) (by simp)

theorem Ents.append {h : Heap} {vs : List Value} {es : List Ent} {t : Addr} {f p : Str} {tf tp : Tok} (hE : Ents h vs es) (ht : h.get? t = some (tupObj [.str f tf, .str p tp])) : Ents h (vs ++ [.ref t]) (es ++ [(f, p)]) := by
  refine ⟨by simp [hE.1], fun i e hi => ?_⟩
  by_cases q : i < es.length
  · rw [List.getElem?_append_left q] at hi
    obtain ⟨t', a, b, c, g⟩ := hE.2 i e hi
    exact ⟨t', a, b, by rw [List.getElem?_append_left (by rw [hE.1]; exact q)]; exact c, g⟩
  · have hq : i = es.length := by
      have := (List.getElem?_eq_some_iff.mp hi).1
      simp at this; omega
    subst hq
    simp at hi
    subst hi
    refine ⟨t, tf, tp, ?_, ht⟩
    rw [← hE.1]; simp
theorem Ents.last {h : Heap} {vs : List Value} {es : List Ent} {f p : Str} (hE : Ents h vs (es ++ [(f, p)])) : ∃ vs0 t tf tp, vs = vs0 ++ [.ref t] ∧ Ents h vs0 es ∧ h.get? t = some (tupObj [.str f tf, .str p tp]) := by
  have hl := hE.1
  rw [List.length_append] at hl
  obtain ⟨t, tf, tp, ht, hg⟩ := hE.2 es.length (f, p) (by simp)
  have hsplit : vs = vs.take es.length ++ [.ref t] := by
    have h1 : vs.drop es.length = [.ref t] := by
      obtain ⟨hlt, he⟩ := List.getElem?_eq_some_iff.mp ht
      rw [List.drop_eq_getElem_cons hlt, he, List.drop_of_length_le (by simp at hl; omega)]
    rw [← h1, List.take_append_drop]
  refine ⟨vs.take es.length, t, tf, tp, hsplit, ⟨by simp at hl ⊢; omega, fun i e hi => ?_⟩, hg⟩
  have hi' := (List.getElem?_eq_some_iff.mp hi).1
  obtain ⟨t', a, b, c, g⟩ := hE.2 i e (by rw [List.getElem?_append_left hi']; exact hi)
  exact ⟨t', a, b, by rw [List.getElem?_take, if_pos hi']; exact c, g⟩

theorem star_tup {a : Addr} {ws : List Value} {Q : List Value → Shared → Prop} (ha : s.heap.get? a = some (tupObj ws)) (hz : ws.length ≤ 100) (h : ∀ h', (∀ b o, s.heap.get? b = some o → h'.get? b = some o) → Q ws { s with heap := h' }) : StarOf (model PP w) A E (.ref a) Q s := by
  have hT' : s.TypeIs (.ref a) "tuple" := ⟨_, ha, rfl⟩
  have z : wpAny (model PP w) A (collect (.ref a)) Q E s := by
    refine wpAny_collect_seq a (.inr rfl) ha rfl (items := ws.toArray) rfl (fun h' hk => h h' hk) (by rw [List.size_toArray, sizeLine_eq]; omega)
  unfold StarOf notIterableAtAll
  exact wpAny_bind (wpAny_specialOf hT' PySem.F.slot_tuple_iter.lookup (wpAny_pure ⟨rfl, z⟩))

/-- a name of the frame's is set -/
theorem storeL {a : Addr} {cn x : Str} {cs : Scope} {ccd v : Value} {cl : List (Str × Addr)} {Q : Unit → Shared → Prop} (G : Lg h₀ L m s.heap news)
    (h : ∀ h', Lg h₀ L (fun y => if y = x then some v else m y) h' news → (∀ b us, s.heap.get? b = some (tupObj us) → h'.get? b = some (tupObj us)) → (∀ b o, b ≠ L → s.heap.get? b = some o → h'.get? b = some o) → Q () { s with heap := h', toks := s.toks + 1 })
    (hk : cs.kind = .function := by rfl) (hx : (envX cn cs L a ccd cl).kindOf x = some .local := by rfl) : wpAny (model PP w) A (storeName (envX cn cs L a ccd cl) x v) Q E s :=
  wpAny_storeName_local hx G.fr.ns (fun h' hn hs => h h' (G.local hn hs) (fun b us e => (hs.2 b (fun q => by
    obtain ⟨o, es, ep, ho, hd, _⟩ := G.fr.ns
    rw [q, ho] at e
    cases e
    cases hd)).trans e) (fun b o q e => (hs.2 b q).trans e)) (by show (cs.kind == .class || (cs.kind == .module && L != mainGlobals)) = false; rw [hk]; rfl)

theorem MethodCall_S {env : Env} {o : PySem.Expr} {name : Str} {apos pos : Pos} {args : List PySem.Expr}
    (h : wpAny (model PP w) A (PySem.eval o env) (fun ov s₁ => wpAny (model PP w) A (getAttr ov name true) (fun f s₂ => wpAny (model PP w) A (callWith pos f [] (backTo pos (starEach args env)) []) Q E s₂) E s₁) E s)
    (he : PySem.eval (.Call (.Attribute o name apos) args [] pos) env = (do
      let ov ← PySem.eval o env
      standAt apos.atName
      methodCall o name apos pos env ov (args.length + 0) (backTo pos (starEach args env)) []) := by rfl)
    (hf : methodCallForm (args.length + 0) (backTo pos (starEach args env)) [] = false := by rfl) : wpAny (model PP w) A (PySem.eval (.Call (.Attribute o name apos) args [] pos) env) Q E s := by
  rw [he]
  unfold methodCall calleeOf methodCallPos
  rw [hf]
  refine wpAny_bind (wpAny_mono h (fun ov s₁ h₁ => wpAny_bind (wpAny_standAt (wpAny_bind (wpAny_holding ?_)))) fun _ _ x => x)
  rw [if_neg Bool.false_ne_true]
  refine wpAny_bind (wpAny_mono h₁ (fun f s₂ h₂ => wpAny_pure ?_) fun _ _ x => x)
  refine wpAny_bind ?_
  rw [if_pos (by rfl)]
  exact wpAny_pure h₂

theorem callWith_SM {pos p : Pos} {env : Env} {q g : Addr} {self : Value} {e : PySem.Expr} {first : List Value} (hf : fnIn (hd.heap_1 w.params) g = true)
    (h : wpAny (model PP w) A (PySem.eval e env) (fun v s₁ => StarOf (model PP w) A E v (fun vs s₂ => MethP (hd.heap_1 w.params) q g self s₂.heap ∧ wpAny (model PP w) A (call (.ref q) (first ++ vs)) Q E s₂) s₁) E s)
    (he : starEach [.Starred e p] env = [(true, PySem.eval e env)] := by rfl) : wpAny (model PP w) A (callWith pos (.ref q) first (backTo pos (starEach [.Starred e p] env)) []) Q E s := by
  rw [he]
  exact ks_call rfl (keeps_M hf) (ks_lone h)

theorem c_newline {mk md ls x d : Addr} {wd : Int} {lines vs : List Value} {es : List Ent} {f p : Str} (hm : Mk mk md ls x d wd lines vs l) (hE : Ents s.heap vs (es ++ [(f, p)])) (hz : ∀ e ∈ es ++ [(f, p)], e.1.length ≤ 1000 ∧ e.2.length ≤ 1000)
    (o1 : PyData.strOk f = true) (o2 : PyData.strOk p = true) (hne : ¬ (f = Str.ofString " " ∧ p = Str.ofString "")) (hw : Txt.isspace (eStr (es ++ [(f, p)])) = false) (hpos : elen (es ++ [(f, p)]) ≠ 0) (hln : lines.length < 100)
    (R : Rm A 14) (W : Wd w mg mb h₀) (G : Lg h₀ L m s.heap (l ++ rest))
    (h : ∀ s' l' t, Mk mk md ls x d wd (lines ++ [.str (eStr (es ++ [(f, p)])) t]) [] l' → Bk s h₀ L m l rest s' l' → Q .none s') : wpAny (model PP w) A (call (.ref 98) [.ref mk]) Q E s := by
  have hm0 := hm
  obtain ⟨la, n, a1, a2, a3, a4, a5, a6, k1, k2, k3, k4, k5, k6, tw, ts, tl, tc, k, ha, hl, rfl⟩ := hm
  refine call_def (cl := []) (binds := [("self", .ref mk)]) W G (by k_is) rfl (by k_is) R.room (.of_eq rfl) (by rfl) ?_ (by decide)
  intro g L' h₁ W' kp G' back
  have hE1 : Ents h₁ vs (es ++ [(f, p)]) := hE.keep fun _ _ e => G'.fr.keep _ _ (kp _ _ e (notCore G hm0.notup e))
  obtain ⟨vs0, t, tf, tp, rfl, hE0, htup⟩ := hE1.last
  have Im : ∀ {h' : Heap} {la'} {mm}, Lg g L' mm h' (la' ++ [(ls, listO lines n), (mk, mkObj md), (md, dictOf (mkE a1 a2 a3 a4 a5 a6 k1 k2 k3 k4 k5 k6 wd tw ts tl tc ls x) k)]) →
      PySem.W.InstAt h' mk (mkObj md) 136 (some (dictOf (mkE a1 a2 a3 a4 a5 a6 k1 k2 k3 k4 k5 k6 wd tw ts tl tc ls x) k)) := fun G => ⟨G.getR (i := 1) rfl, rfl, rfl, G.getR (i := 2) rfl⟩
  refine wpAny_execs_cons ?_
  refine wpAny_Assign_Name ?_
  refine MethodCall_ ?_
  refine Attribute_any_ ?_
  refine nameX_L G'.fr rfl ?_
  refine get_own G'.fr W'.X (Im G') (by k_is) (by k_is) (by k_is) (by k_is) rfl rfl ?_
  obtain ⟨na, hka, tka, tza, ka, Ia⟩ := ha.instL G'
  refine getm_any (W'.X.keeps G'.fr.keep) Ia (by k_is) (by decide +kernel) (by k_is) (by k_is) (by k_is) (by rfl) (by rfl) ?_
  refine callWith_K0 (W'.X.keeps G'.fr.keep) (by k_is) ?_
  refine c_pop ha W' G' (R.deep (k := 13)).room1 fun s2 l2 ha2 B2 => ?_
  have G2 := B2.lg
  have tk2 := B2.kp _ _ htup (notCore G' ha.notup htup)
  refine storeL G2 fun h₃ G3 kt3 ko3 => ?_
  have tk3 := kt3 _ _ tk2
  dsimp only
  refine wpAny_execs_cons ?_
  refine wpAny_If ?_
  refine wpAny_isTrue_Compare1 ?_
  refine nameX_L G3.fr rfl ?_
  refine Tuple_ ?_
  refine spliced_more (Calls.Constant_str (spliced_more (Calls.Constant_str (spliced_none ?_))))
  refine wpAny_newObj_type ?_ (by show 2 ≤ sizeLine; rw [sizeLine_eq]; omega)
  have G4 := (G3.alloc (tupObj [.str (Str.ofString " ") (s2.toks + 1), .str (Str.ofString "") (s2.toks + 1 + 1)])).drop (.cons _ (.refl _))
  refine ne_pair (Heap.get?_push_of_some _ tk3) (Heap.get?_push_size _ rfl) o1 o2 hne (by have := R.u; show A.units + 3 + 64 < _; omega) ?_
  refine wpAny_truthy_bool ?_
  rw [if_pos rfl]
  refine wpAny_execs_cons ?_
  refine wpAny_Expr_any ?_
  refine MethodCall_S ?_
  refine Attribute_any_ ?_
  refine nameX_L G4.fr rfl ?_
  refine get_own G4.fr W'.X (Im G4) (by k_is) (by k_is) (by k_is) (by k_is) rfl rfl ?_
  obtain ⟨na, hka, tka, tza, ka, Ia⟩ := ha2.instL G4
  have X4 := W'.X.keeps G4.fr.keep
  refine acc_bound (f := 164) X4 Ia.at_ Ia.dict (by k_is) (by k_is) (by k_is) (by k_is) (by rfl) (by rfl) ?_
  have G4m := (G4.alloc (methodObj (.ref 164) (.ref x))).drop (.cons _ (.refl _))
  refine callWith_SM (g := 164) (self := .ref x) (by k_is) ?_
  refine nameX_L G4m.fr rfl ?_
  have tk4 := Heap.get?_push_of_some (methodObj (.ref 164) (.ref x)) (Heap.get?_push_of_some (tupObj [.str (Str.ofString " ") (s2.toks + 1), .str (Str.ofString "") (s2.toks + 1 + 1)]) tk3)
  refine star_tup tk4 (by simp) fun h₅ k₅ => ?_
  have G5 := G4m.ext k₅
  have M5 := k₅ _ _ (Heap.get?_push_size _ rfl)
  refine ⟨⟨M5, W'.X.keeps G5.fr.keep⟩, ?_⟩
  have hl0 : vs0.length < 100 := by
    obtain ⟨_, _, _, _, _, _, _, _, _, _, q⟩ := ha
    simp at q; omega
  refine wpAny_call (method_call M5 ?_)
  refine code_push ha2 hl0 W' G5 (R.deep (k := 13)).room fun s6 t6 l6 ha6 B6 tk6 _ => ?_
  dsimp only
  refine wpAny_execs_nil ?_
  dsimp only
  have hE6 : Ents s6.heap (vs0 ++ [.ref t6]) (es ++ [(f, p)]) :=
    (hE0.keep fun _ _ e => B6.kp _ _ (k₅ _ _ (Heap.get?_push_of_some _ (Heap.get?_push_of_some _ (kt3 _ _ (B2.kp _ _ e (notCore G' ha.notup e)))))) (notCore G5 ha2.notup (k₅ _ _ (Heap.get?_push_of_some _ (Heap.get?_push_of_some _ (kt3 _ _ (B2.kp _ _ e (notCore G' ha.notup e)))))))).append tk6
  have F6 : AccF s6 x d (vs0 ++ [.ref t6]) (es ++ [(f, p)]) g L' _ l6 _ := ⟨ha6, hE6, hz, B6.lg⟩
  have Rd : ∀ env : Env, Rm (A.deeper env) 13 := fun env => R.deep
  refine wpAny_execs_cons ?_
  refine wpAny_If ?_
  refine wpAny_isTrue_Compare1 ?_
  refine Call_ ?_
  refine nameX_B F6.g.fr W'.X W'.T (by k_is) (by boot_by_name) (by decide) ?_
  refine PyProof.Rows.callWith_builtin1 (spliced_more (Attribute_any_ (nameX_L F6.g.fr rfl (get_own F6.g.fr W'.X (Im F6.g) (by k_is) (by k_is) (by k_is) (by k_is) rfl rfl ?_))))
  refine spliced_none ?_
  have F6' : AccF { s6 with toks := s6.toks + 1 } x d (vs0 ++ [.ref t6]) (es ++ [(f, p)]) g L' _ l6 _ := ⟨ha6, hE6, hz, B6.lg⟩
  refine len_acc F6' ((Rd _).le (by decide)) W' fun s7 t7 l7 ha7 B7 => ?_
  have F7 := F6'.back ha7 B7
  refine wpAny_Constant_int ?_
  refine PyProof.Rows.gt_int ?_
  refine wpAny_truthy_bool ?_
  rw [show decide (((elen (es ++ [(f, p)]) : Nat) : Int) > 0) = true from decide_eq_true (by omega), if_pos rfl]
  refine wpAny_execs_cons ?_
  refine wpAny_If ?_
  refine isTrue_and ?_
  refine isTrue_plain ?_
  refine MethodCall_ ?_
  refine Attribute_any_ (nameX_L F7.g.fr rfl (get_own F7.g.fr W'.X (Im F7.g) (by k_is) (by k_is) (by k_is) (by k_is) rfl rfl ?_))
  obtain ⟨nb, hkb, tkb, tzb, kb, Ib⟩ := ha7.instL F7.g
  refine getm_any (W'.X.keeps F7.g.fr.keep) Ib (by k_is) (by decide +kernel) (by k_is) (by k_is) (by k_is) (by rfl) (by rfl) ?_
  refine callWith_K0 (W'.X.keeps F7.g.fr.keep) (by k_is) ?_
  have F7' : AccF { s7 with toks := s7.toks + 1 + 1 } x d (vs0 ++ [.ref t6]) (es ++ [(f, p)]) g L' _ l7 _ := ⟨ha7, F7.e, hz, B7.lg⟩
  refine c_onlyws F7' ((Rd _).le (by decide)) W' hpos hw fun s8 l8 ha8 B8 => ?_
  have F8 := F7'.back ha8 B8
  refine wpAny_truthy_bool ?_
  rw [if_neg (by decide), if_neg (by decide)]
  refine wpAny_execs_cons ?_
  refine wpAny_Expr_any ?_
  refine MethodCall_ ?_
  refine Attribute_any_ (nameX_L F8.g.fr rfl (get_own F8.g.fr W'.X (Im F8.g) (by k_is) (by k_is) (by k_is) (by k_is) rfl rfl ?_))
  refine Calls.getMethod_list_append (F8.g.getR (i := 0) rfl) rfl rfl ?_
  refine callWith_method1 ?_
  refine spliced_more ?_
  refine Call_ ?_
  refine nameX_B F8.g.fr W'.X W'.T (by k_is) (by boot_by_name) (by decide) ?_
  refine PyProof.Rows.callWith_type1 (spliced_more (Attribute_any_ (nameX_L F8.g.fr rfl (get_own F8.g.fr W'.X (Im F8.g) (by k_is) (by k_is) (by k_is) (by k_is) rfl rfl ?_))))
  refine spliced_none ?_
  have F8' : AccF { s8 with toks := s8.toks + 1 + 1 } x d (vs0 ++ [.ref t6]) (es ++ [(f, p)]) g L' _ l8 _ := ⟨ha8, F8.e, hz, B8.lg⟩
  refine str_acc F8' ((Rd _).le (by decide)) W' fun s9 t9 l9 ha9 B9 => ?_
  refine spliced_none ?_
  refine lst_append B9.lg (i := 0) rfl (by omega) fun h₁₀ n₁₀ G10 _ => ?_
  refine wpAny_execs_nil ?_
  dsimp only
  refine wpAny_execs_nil ?_
  dsimp only
  refine wpAny_execs_cons ?_
  refine wpAny_Expr_any ?_
  refine MethodCall_ ?_
  have Im2 : PySem.W.InstAt h₁₀ mk (mkObj md) 136 (some (dictOf (mkE a1 a2 a3 a4 a5 a6 k1 k2 k3 k4 k5 k6 wd tw ts tl tc ls x) k)) := ⟨G10.getR (i := 1) rfl, rfl, rfl, G10.getR (i := 2) rfl⟩
  refine Attribute_any_ (nameX_L G10.fr rfl (get_own (s := ⟨h₁₀, _, _, _, _⟩) G10.fr W'.X Im2 (by k_is) (by k_is) (by k_is) (by k_is) rfl rfl ?_))
  obtain ⟨nc, hkc, tkc, tzc, kc, Ic⟩ := ha9.instL G10
  refine getm_any (s := ⟨h₁₀, _, _, _, _⟩) (W'.X.keeps G10.fr.keep) Ic (by k_is) (by decide +kernel) (by k_is) (by k_is) (by k_is) (by rfl) (by rfl) ?_
  refine callWith_K0 (s := ⟨h₁₀, _, _, _, _⟩) (W'.X.keeps G10.fr.keep) (by k_is) ?_
  refine c_reset0 (s := ⟨h₁₀, _, _, _, _⟩) ha9 ((Rd _).le (by decide)) W' G10 fun s11 l11 ha11 B11 => ?_
  refine wpAny_execs_nil ?_
  refine h _ _ _ ⟨l11, n₁₀, a1, a2, a3, a4, a5, a6, k1, k2, k3, k4, k5, k6, tw, ts, tl, tc, k, ha11, by simp; omega, rfl⟩ (back _ _ _ B11.lg ?_ ?_)
  · exact B11.os.trans (B9.os.trans (B8.os.trans (B7.os.trans (B6.os.trans B2.os))))
  · exact fun q => B11.gn (B9.gn (B8.gn (B7.gn (B6.gn (B2.gn q)))))
end
end Mine
end
section
open PySem PySem.W PyProof.Rows PySem.Calls PySem.Spec Builtin Builtin.ObjectAttr
set_option Elab.async false
set_option maxRecDepth 100000
set_option maxHeartbeats 4000000
set_option pp.maxSteps 6000
namespace Mine
theorem fill24 (w : World) (h₀ : Heap) : (hd.heap_1 w.params).In h₀ → PySem.Challenge.rw_zd0011_01.Holds → True := by k_fill; intros; trivial
section
variable {w : World} {mg mb : Str → Option Value} {A : Around} {s : Shared} {h₀ h : Heap} {L K : Addr} {m : Str → Option Value} {l la r rest news : List (Addr × Obj)} {Q E : Value → Shared → Prop}
theorem strsAre_append : ∀ {vs : List Value} {ys : List Str} (y : Str) (t : Tok), StrsAre vs ys → StrsAre (vs ++ [.str y t]) (ys ++ [y])
  | _, _, y, t, .nil => .cons y t .nil
  | _, _, y, t, .cons z u r => .cons z u (strsAre_append y t r)

theorem c_strm {mk md ls x d : Addr} {wd : Int} {lines vs : List Value} {rows : List Str} {es : List Ent} {f p sep : Str} {tse : Tok} (hm : Mk mk md ls x d wd lines vs l) (hr : StrsAre lines rows) (hE : Ents s.heap vs (es ++ [(f, p)])) (hz : ∀ e ∈ es ++ [(f, p)], e.1.length ≤ 1000 ∧ e.2.length ≤ 1000)
    (o1 : PyData.strOk f = true) (o2 : PyData.strOk p = true) (hne : ¬ (f = Str.ofString " " ∧ p = Str.ofString "")) (hw : Txt.isspace (eStr (es ++ [(f, p)])) = false) (hpos : elen (es ++ [(f, p)]) ≠ 0) (hln : lines.length < 100)
    (hsep : sep.length ≤ 16) (hwt : ((rows ++ [eStr (es ++ [(f, p)])]).map (·.length)).sum + (rows ++ [eStr (es ++ [(f, p)])]).length ≤ 1048576)
    (R : Rm A 15) (W : Wd w mg mb h₀) (G : Lg h₀ L m s.heap (l ++ rest))
    (h : ∀ s' l' lines' t, Mk mk md ls x d wd lines' [] l' → Bk s h₀ L m l rest s' l' → Q (.str (Txt.join sep (rows ++ [eStr (es ++ [(f, p)])])) t) s') : wpAny (model PP w) A (call (.ref 84) [.ref mk, .str sep tse]) Q E s := by
  have hm0 := hm
  obtain ⟨la, n, a1, a2, a3, a4, a5, a6, k1, k2, k3, k4, k5, k6, tw, ts, tl, tc, k, ha, hl, rfl⟩ := hm
  refine call_def (cl := []) (binds := [("self", .ref mk), ("linesep", .str sep tse)]) W G (by k_is) rfl (by k_is) R.room (.of_eq rfl) (by rfl) ?_ (by decide)
  intro g L' h₁ W' kp G' back
  have hE1 : Ents h₁ vs (es ++ [(f, p)]) := hE.keep fun _ _ e => G'.fr.keep _ _ (kp _ _ e (notCore G hm0.notup e))
  have Im : PySem.W.InstAt h₁ mk (mkObj md) 136 (some (dictOf (mkE a1 a2 a3 a4 a5 a6 k1 k2 k3 k4 k5 k6 wd tw ts tl tc ls x) k)) := ⟨G'.getR (i := 1) rfl, rfl, rfl, G'.getR (i := 2) rfl⟩
  refine wpAny_execs_cons ?_
  refine wpAny_Expr_any ?_
  refine MethodCall_ ?_
  refine nameX_L G'.fr rfl ?_
  refine getm_any (W'.X.keeps G'.fr.keep) Im (by k_is) (by decide +kernel) (by k_is) (by k_is) (by k_is) (by rfl) (by rfl) ?_
  refine callWith_K0 (W'.X.keeps G'.fr.keep) (by k_is) ?_
  refine c_newline (rest := []) hm0 hE1 hz o1 o2 hne hw hpos hln (R.deep (k := 14)) W' G'.app fun s2 l2 t2 hm2 B2 => ?_
  have hm20 := hm2
  obtain ⟨lb, n', b1, b2, b3, b4, b5, b6, j1, j2, j3, j4, j5, j6, uw, us, ul, uc, k', hb, hl', rfl⟩ := hm2
  have G2 := B2.lg.unapp
  have Im2 : PySem.W.InstAt s2.heap mk (mkObj md) 136 (some (dictOf (mkE b1 b2 b3 b4 b5 b6 j1 j2 j3 j4 j5 j6 wd uw us ul uc ls x) k')) := ⟨G2.getR (i := 1) rfl, rfl, rfl, G2.getR (i := 2) rfl⟩
  refine wpAny_execs_cons ?_
  refine wpAny_Return_some ?_
  refine MethodCall_ ?_
  refine nameX_L G2.fr rfl ?_
  refine GM.join ?_
  refine callWith_method1 ?_
  refine spliced_more ?_
  refine Attribute_any_ (nameX_L G2.fr rfl (get_own G2.fr W'.X Im2 (by k_is) (by k_is) (by k_is) (by k_is) rfl rfl ?_))
  refine spliced_none ?_
  refine join_listW ⟨_, G2.getR (i := 0) rfl, rfl, _, rfl⟩ (by simpa using strsAre_append _ t2 hr) hsep hwt fun t3 k3 => ?_
  exact h _ _ _ _ hm20 (back { s2 with toks := k3 } _ _ G2 B2.os B2.gn)
end
end Mine
end
section
open PySem PySem.W PyProof.Rows PySem.Calls PySem.Spec Builtin Builtin.ObjectAttr
set_option Elab.async false
set_option maxRecDepth 100000
set_option maxHeartbeats 4000000
set_option pp.maxSteps 6000
namespace Mine
theorem fill25 (w : World) (h₀ : Heap) : (hd.heap_1 w.params).In h₀ → PySem.Challenge.rw_zd0011_01.Holds → True := by k_fill; intros; trivial
section
variable {w : World} {mg mb : Str → Option Value} {A : Around} {s : Shared} {h₀ h : Heap} {L K : Addr} {m : Str → Option Value} {l la r rest news : List (Addr × Obj)} {Q E : Value → Shared → Prop}

theorem Lg.allocR (G : Lg h₀ L m h (la ++ r)) (o : Obj) (hf : o.isFreed = false := by rfl) : Lg h₀ L m (h.push o) (la ++ (r ++ [(h.objs.size, o)])) := by
  have := (G.alloc o hf).perm (List.perm_append_singleton (h.objs.size, o) (la ++ r))
  rwa [List.append_assoc] at this
theorem Lg.writeR (G : Lg h₀ L m h (la ++ r)) {i : Nat} {a : Addr} {o o' : Obj} {h' : Heap} (hi : r[i]? = some (a, o)) (hs : Heap.SameBut a h h') (ho : h'.get? a = some o') : Lg h₀ L m h' (la ++ r.set i (a, o')) := by
  have := G.write (app_get (la := la) hi) hs ho
  rwa [app_set] at this
theorem Lg.dropR (G : Lg h₀ L m h (la ++ r)) {r' : List (Addr × Obj)} (hs : r'.Sublist r) : Lg h₀ L m h (la ++ r') := G.drop (hs.append_left la)

/-- one turn of a loop over an iterator -/
theorem for_turn {R : Result → Shared → Prop} {target : PySem.Expr} {it : Value} {body orelse : List Stmt} {env : Env}
    (h : wpAny (model PP w) A (pyNext it) (fun r s₁ => match r with
      | none => wpAny (model PP w) A (execs orelse env) (fun f s₃ => R (.ok f) s₃) (notedBy (model PP w) A env fun e s' => R (.error e) s') s₁
      | some v => wpAny (model PP w) A (assign target env v) (fun _ s₂ => wpAny (model PP w) A (execs body env) (fun f s₃ => match f with
          | .next | .cont => codeAny (model PP w) A (.forLoop target it body orelse env) R s₃
          | .brk => R (.ok .next) s₃
          | .ret v => R (.ok (.ret v)) s₃) (notedBy (model PP w) A env fun e s' => R (.error e) s') s₂) (notedBy (model PP w) A env fun e s' => R (.error e) s') s₁) (notedBy (model PP w) A env fun e s' => R (.error e) s') s)
    (ht : ∀ v, letOwnedTupleGo target it v = pure () := by intro _; rfl) : codeAny (model PP w) A (.forLoop target it body orelse env) R s := by
  refine codeAny_of_tree ?_
  show wpAny _ A ((forTurn target it body orelse env).onRaise (fun x => do noteFrame x env; theTreesLotGoes x)) _ _ s
  refine wpAny_noted ?_
  simp only [forTurn]
  refine wpAny_bind (wpAny_standAt (wpAny_bind (wpAny_onRaise (wpAny_mono h (fun r s₁ h₁ => ?_) fun _ _ h' => wpAny_standAt h'))))
  cases r with
  | none => exact wpAny_pure ⟨rfl, codeAny_block h₁⟩
  | some v =>
    refine wpAny_bind (wpAny_of_eq (ht v) ?_)
    refine wpAny_bind (wpAny_mono h₁ (fun _ s₂ h₂ => wpAny_bind (wpAny_mono h₂ (fun f s₃ h₃ => ?_) fun _ _ h' => h')) fun _ _ h' => h')
    cases f with
    | next => exact wpAny_pure ⟨rfl, h₃⟩
    | cont => exact wpAny_pure ⟨rfl, h₃⟩
    | brk => exact wpAny_pure h₃
    | ret v => exact wpAny_pure h₃
end
end Mine
end
section
open PySem PySem.W PyProof.Rows PySem.Calls PySem.Spec Builtin Builtin.ObjectAttr
set_option Elab.async false
set_option maxRecDepth 100000
set_option maxHeartbeats 4000000
set_option pp.maxSteps 6000
namespace Mine
theorem fill26 (w : World) (h₀ : Heap) : (hd.heap_1 w.params).In h₀ → PySem.Challenge.rw_zd0011_01.Holds → True := by k_fill; intros; trivial
theorem small_down : ∀ n : Nat, n < 101 → Builtin.Range.small (n : Int) 0 (-1) = true := by decide +kernel
theorem size_down : ∀ n : Nat, n < 101 → Builtin.Range.rangeSize (n : Int) 0 (-1) = (n : Int) := by decide +kernel
section
variable {w : World} {mg mb : Str → Option Value} {A : Around} {s : Shared} {h₀ h : Heap} {L K : Addr} {m : Str → Option Value} {l la r rest news : List (Addr × Obj)} {Q E : Value → Shared → Prop}
theorem c_chunkA {mk md ls x d : Addr} {wd : Int} {lines vs : List Value} {es : List Ent} {f p : Str} {tf tp : Tok} (hm : Mk mk md ls x d wd lines vs l) (hE : Ents s.heap vs es) (hz : ∀ e ∈ es ++ [(f, p)], e.1.length ≤ 1000 ∧ e.2.length ≤ 1000) (hvl : vs.length < 100)
    (hfit : ((elen (es ++ [(f, p)]) : Nat) : Int) ≤ wd)
    (R : Rm A 14) (W : Wd w mg mb h₀) (G : Lg h₀ L m s.heap (l ++ rest))
    (h : ∀ s' l' t, Mk mk md ls x d wd lines (vs ++ [.ref t]) l' → Bk s h₀ L m l rest s' l' → s'.heap.get? t = some (tupObj [.str f tf, .str p tp]) → (∀ b us, s.heap.get? b = some (tupObj us) → b ≠ t) → Q .none s') : wpAny (model PP w) A (call (.ref 133) [.ref mk, .str f tf, .str p tp]) Q E s := by
  have hm0 := hm
  obtain ⟨la, n, a1, a2, a3, a4, a5, a6, k1, k2, k3, k4, k5, k6, tw, ts, tl, tc, k, ha, hl, rfl⟩ := hm
  refine call_def (cl := []) (binds := [("self", .ref mk), ("fws", .str f tf), ("string", .str p tp)]) W G (by k_is) rfl (by k_is) R.room (.of_eq rfl) (by rfl) ?_ (by decide)
  intro g L' h₁ W' kp G' back
  have hE1 : Ents h₁ vs es := hE.keep fun _ _ e => G'.fr.keep _ _ (kp _ _ e (notCore G hm0.notup e))
  have kt1 : ∀ b us, s.heap.get? b = some (tupObj us) → h₁.get? b = some (tupObj us) := fun _ _ e => G'.fr.keep _ _ (kp _ _ e (notCore G hm0.notup e))
  have Rd : ∀ env : Env, Rm (A.deeper env) 13 := fun env => R.deep
  have Im : ∀ {h' : Heap} {la' r'} {mm}, Lg g L' mm h' (la' ++ ((ls, listO lines n) :: (mk, mkObj md) :: (md, dictOf (mkE a1 a2 a3 a4 a5 a6 k1 k2 k3 k4 k5 k6 wd tw ts tl tc ls x) k) :: r')) →
      PySem.W.InstAt h' mk (mkObj md) 136 (some (dictOf (mkE a1 a2 a3 a4 a5 a6 k1 k2 k3 k4 k5 k6 wd tw ts tl tc ls x) k)) := fun G => ⟨G.getR (i := 1) rfl, rfl, rfl, G.getR (i := 2) rfl⟩
  refine wpAny_execs_cons ?_
  refine wpAny_Expr_any ?_
  refine MethodCall_ ?_
  refine Attribute_any_ (nameX_L G'.fr rfl (get_own G'.fr W'.X (Im G') (by k_is) (by k_is) (by k_is) (by k_is) rfl rfl ?_))
  obtain ⟨na, hka, tka, tza, ka, Ia⟩ := ha.instL G'
  refine getm_any (W'.X.keeps G'.fr.keep) Ia (by k_is) (by decide +kernel) (by k_is) (by k_is) (by k_is) (by rfl) (by rfl) ?_
  refine callWith_K (W'.X.keeps G'.fr.keep) (by k_is) (spliced_more (nameX_L G'.fr rfl (spliced_more (nameX_L G'.fr rfl (spliced_none ?_)))))
  refine ⟨W'.X.keeps G'.fr.keep, ?_⟩
  refine c_push (s := ⟨h₁, _, _, _, _⟩) ha hvl W' G' (Rd _).room fun s2 t2 l2 ha2 B2 tk2 fr2 => ?_
  have hE2 : Ents s2.heap (vs ++ [.ref t2]) (es ++ [(f, p)]) := (hE1.keep fun _ _ e => B2.kp _ _ e (notCore G' ha.notup e)).append tk2
  have F2 : AccF s2 x d (vs ++ [.ref t2]) (es ++ [(f, p)]) g L' _ l2 _ := ⟨ha2, hE2, hz, B2.lg⟩
  refine wpAny_execs_cons ?_
  refine wpAny_If ?_
  refine wpAny_isTrue_Compare1 ?_
  refine Call_ ?_
  refine nameX_B F2.g.fr W'.X W'.T (by k_is) (by boot_by_name) (by decide) ?_
  refine PyProof.Rows.callWith_builtin1 (spliced_more (Attribute_any_ (nameX_L F2.g.fr rfl (get_own F2.g.fr W'.X (Im F2.g) (by k_is) (by k_is) (by k_is) (by k_is) rfl rfl ?_))))
  refine spliced_none ?_
  have F2' : AccF { s2 with toks := s2.toks + 1 } x d (vs ++ [.ref t2]) (es ++ [(f, p)]) g L' _ l2 _ := ⟨ha2, hE2, hz, B2.lg⟩
  refine len_acc F2' ((Rd _).le (by decide)) W' fun s3 t3 l3 ha3 B3 => ?_
  have F3 := F2'.back ha3 B3
  refine Attribute_any_ (nameX_L F3.g.fr rfl (get_own F3.g.fr W'.X (Im F3.g) (by k_is) (by k_is) (by k_is) (by k_is) rfl rfl ?_))
  refine PyProof.Rows.gt_int ?_
  refine wpAny_truthy_bool ?_
  rw [show decide (wd < ((elen (es ++ [(f, p)]) : Nat) : Int)) = false from decide_eq_false (by omega), if_neg (by decide)]
  refine wpAny_execs_nil ?_
  dsimp only
  refine wpAny_execs_nil ?_
  refine h _ _ t2 ⟨l3, n, a1, a2, a3, a4, a5, a6, k1, k2, k3, k4, k5, k6, tw, ts, tl, tc, k, ha3, hl, rfl⟩ (back _ _ _ B3.lg ?_ ?_) (B3.kp _ _ tk2 (notCore F2'.g ha2.notup tk2)) fun b us e => fr2 b us (kt1 _ _ e)
  · exact B3.os.trans B2.os
  · exact fun q => B3.gn (B2.gn q)
end
end Mine
end
section
open PySem PySem.W PyProof.Rows PySem.Calls PySem.Spec Builtin Builtin.ObjectAttr
set_option Elab.async false
set_option maxRecDepth 100000
set_option maxHeartbeats 4000000
set_option pp.maxSteps 6000
namespace Mine
theorem fill27 (w : World) (h₀ : Heap) : (hd.heap_1 w.params).In h₀ → PySem.Challenge.rw_zd0011_01.Holds → True := by k_fill; intros; trivial
section
variable {w : World} {mg mb : Str → Option Value} {A : Around} {s : Shared} {h₀ h : Heap} {L K : Addr} {m : Str → Option Value} {l la r rest news : List (Addr × Obj)} {Q E : Value → Shared → Prop}

theorem keepTup {h h' : Heap} {a : Addr} {o : Obj} (hs : Heap.SameBut a h h') (ho : h.get? a = some o) (hn : o.cls ≠ .type "tuple") : ∀ b us, h.get? b = some (tupObj us) → h'.get? b = some (tupObj us) := fun b us e => (hs.2 b (fun q => by
  rw [q, ho] at e
  cases e
  exact hn rfl)).trans e

theorem Lg.loseLast {a : Addr} {o : Obj} (G : Lg h₀ L m h (la ++ [(a, o)])) {h' : Heap} (hs : Heap.ExtBut a h h') : Lg h₀ L m h' la := by
  have hm : (a, o) ∈ la ++ [(a, o)] := by simp
  have hold : ∀ b ob, h₀.get? b = some ob → b ≠ a := fun b ob e q => by
    have := (G.nw _ hm).2.2
    simp only at this
    rw [← q, e] at this; cases this
  have nd := G.nd
  rw [List.map_append, List.nodup_append] at nd
  refine ⟨⟨G.fr.ns.extBut hs (fun q => (G.nw _ hm).2.1 q.symm), fun b ob e => hs b ob (hold b ob e) (G.fr.keep b ob e), G.fr.above⟩, fun p hp => ?_, nd.1⟩
  have hp' := List.mem_append_left [(a, o)] hp
  exact ⟨hs p.1 _ (fun q => nd.2.2 p.1 (List.mem_map_of_mem hp) a (by simp) q) (G.nw p hp').1, (G.nw p hp').2⟩
theorem extTup {h h' : Heap} {a : Addr} {o : Obj} (hs : Heap.ExtBut a h h') (ho : h.get? a = some o) (hn : o.cls ≠ .type "tuple") : ∀ b us, h.get? b = some (tupObj us) → h'.get? b = some (tupObj us) := fun b us e => hs b _ (fun q => by
  rw [q, ho] at e
  cases e
  exact hn rfl) e
theorem c_chunkB {mk md ls x d : Addr} {wd : Int} {lines vs : List Value} {es : List Ent} {f p : Str} {tf tp : Tok} (hm : Mk mk md ls x d wd lines vs l) (hE : Ents s.heap vs es) (hz : ∀ e ∈ es ++ [(f, p)], e.1.length ≤ 1000 ∧ e.2.length ≤ 1000) (hvl : vs.length < 100)
    (hfit : wd < ((elen (es ++ [(f, p)]) : Nat) : Int)) (hcase : es = [] ∨ ∃ f0 p0, es = [(f0, p0)] ∧ 1 ≤ p0.length ∧ (Txt.item p0 (-1) == ({ cps := #[44] } : Str)) = false)
    (R : Rm A 14) (W : Wd w mg mb h₀) (G : Lg h₀ L m s.heap (l ++ rest))
    (h : ∀ s' l' t, Mk mk md ls x d wd lines (vs ++ [.ref t]) l' → Bk s h₀ L m l rest s' l' → s'.heap.get? t = some (tupObj [.str f tf, .str p tp]) → (∀ b us, s.heap.get? b = some (tupObj us) → b ≠ t) → Q .none s') : wpAny (model PP w) A (call (.ref 133) [.ref mk, .str f tf, .str p tp]) Q E s := by
  have hm0 := hm
  obtain ⟨la, n, a1, a2, a3, a4, a5, a6, k1, k2, k3, k4, k5, k6, tw, ts, tl, tc, k, ha, hl, rfl⟩ := hm
  refine call_def (cl := []) (binds := [("self", .ref mk), ("fws", .str f tf), ("string", .str p tp)]) W G (by k_is) rfl (by k_is) R.room (.of_eq rfl) (by rfl) ?_ (by decide)
  intro g L' h₁ W' kp G' back
  have hE1 : Ents h₁ vs es := hE.keep fun _ _ e => G'.fr.keep _ _ (kp _ _ e (notCore G hm0.notup e))
  have kt1 : ∀ b us, s.heap.get? b = some (tupObj us) → h₁.get? b = some (tupObj us) := fun _ _ e => G'.fr.keep _ _ (kp _ _ e (notCore G hm0.notup e))
  have Rd : ∀ env : Env, Rm (A.deeper env) 13 := fun env => R.deep
  have Im : ∀ {h' : Heap} {la' r'} {mm}, Lg g L' mm h' (la' ++ ((ls, listO lines n) :: (mk, mkObj md) :: (md, dictOf (mkE a1 a2 a3 a4 a5 a6 k1 k2 k3 k4 k5 k6 wd tw ts tl tc ls x) k) :: r')) →
      PySem.W.InstAt h' mk (mkObj md) 136 (some (dictOf (mkE a1 a2 a3 a4 a5 a6 k1 k2 k3 k4 k5 k6 wd tw ts tl tc ls x) k)) := fun G => ⟨G.getR (i := 1) rfl, rfl, rfl, G.getR (i := 2) rfl⟩
  refine wpAny_execs_cons ?_
  refine wpAny_Expr_any ?_
  refine MethodCall_ ?_
  refine Attribute_any_ (nameX_L G'.fr rfl (get_own G'.fr W'.X (Im G') (by k_is) (by k_is) (by k_is) (by k_is) rfl rfl ?_))
  obtain ⟨na, hka, tka, tza, ka, Ia⟩ := ha.instL G'
  refine getm_any (W'.X.keeps G'.fr.keep) Ia (by k_is) (by decide +kernel) (by k_is) (by k_is) (by k_is) (by rfl) (by rfl) ?_
  refine callWith_K (W'.X.keeps G'.fr.keep) (by k_is) (spliced_more (nameX_L G'.fr rfl (spliced_more (nameX_L G'.fr rfl (spliced_none ?_)))))
  refine ⟨W'.X.keeps G'.fr.keep, ?_⟩
  refine c_push (s := ⟨h₁, _, _, _, _⟩) ha hvl W' G' (Rd _).room fun s2 t2 l2 ha2 B2 tk2 fr2 => ?_
  have hE2 : Ents s2.heap (vs ++ [.ref t2]) (es ++ [(f, p)]) := (hE1.keep fun _ _ e => B2.kp _ _ e (notCore G' ha.notup e)).append tk2
  have F2 : AccF s2 x d (vs ++ [.ref t2]) (es ++ [(f, p)]) g L' _ l2 _ := ⟨ha2, hE2, hz, B2.lg⟩
  refine wpAny_execs_cons ?_
  refine wpAny_If ?_
  refine wpAny_isTrue_Compare1 ?_
  refine Call_ ?_
  refine nameX_B F2.g.fr W'.X W'.T (by k_is) (by boot_by_name) (by decide) ?_
  refine PyProof.Rows.callWith_builtin1 (spliced_more (Attribute_any_ (nameX_L F2.g.fr rfl (get_own F2.g.fr W'.X (Im F2.g) (by k_is) (by k_is) (by k_is) (by k_is) rfl rfl ?_))))
  refine spliced_none ?_
  have F2' : AccF { s2 with toks := s2.toks + 1 } x d (vs ++ [.ref t2]) (es ++ [(f, p)]) g L' _ l2 _ := ⟨ha2, hE2, hz, B2.lg⟩
  refine len_acc F2' ((Rd _).le (by decide)) W' fun s3 t3 l3 ha3 B3 => ?_
  have F3 := F2'.back ha3 B3
  refine Attribute_any_ (nameX_L F3.g.fr rfl (get_own F3.g.fr W'.X (Im F3.g) (by k_is) (by k_is) (by k_is) (by k_is) rfl rfl ?_))
  refine PyProof.Rows.gt_int ?_
  refine wpAny_truthy_bool ?_
  rw [show decide (wd < ((elen (es ++ [(f, p)]) : Nat) : Int)) = true from decide_eq_true (by omega), if_pos rfl]
  refine wpAny_execs_cons ?_
  refine wpAny_For ?_
  refine Attribute_any_ (nameX_L F3.g.fr rfl (get_own F3.g.fr W'.X (Im F3.g) (by k_is) (by k_is) (by k_is) (by k_is) rfl rfl ?_))
  refine wpAny_pyIter_ascii (by decide +kernel) ?_
  have G4 := F3.g.allocR { cls := .type "str_ascii_iterator", data := .fields #[.str (Str.ofString ",") tc, .int 0 0] }
  refine for_turn ?_
  refine wpAny_pyNext_ascii_item (c := 44) ⟨_, G4.getR (i := 3) rfl, rfl, rfl⟩ rfl fun h5 hit5 hs5 => ?_
  obtain ⟨o5, ho5, hc5, hd5⟩ := id hit5
  have G5 := G4.writeR (i := 3) rfl hs5 ho5
  have kt5 := keepTup hs5 (G4.getR (i := 3) rfl) (by simp)
  refine wpAny_assign_Name ?_
  refine storeL G5 fun h6 G6 kt6 ko6 => ?_
  have hE6 : Ents h6 (vs ++ [.ref t2]) (es ++ [(f, p)]) := F3.e.keep fun _ _ e => kt6 _ _ (kt5 _ _ (Heap.get?_push_of_some _ e))
  refine wpAny_execs_cons ?_
  refine wpAny_For ?_
  refine Call_ ?_
  refine nameX_B G6.fr W'.X W'.T (by k_is) (by boot_by_name) (by decide) ?_
  refine PyProof.Rows.callWith_type1 (spliced_more (wpAny_BinOp (MethodCall_ (Attribute_any_ (nameX_L G6.fr rfl (get_own (s := ⟨h6, _, _, _, _⟩) G6.fr W'.X (Im G6) (by k_is) (by k_is) (by k_is) (by k_is) rfl rfl ?_))))))
  obtain ⟨nb, hkb, tkb, tzb, kb, Ib⟩ := ha3.instL G6
  refine getm_any (s := ⟨h6, _, _, _, _⟩) (W'.X.keeps G6.fr.keep) Ib (by k_is) (by decide +kernel) (by k_is) (by k_is) (by k_is) (by rfl) (by rfl) ?_
  refine callWith_K0 (s := ⟨h6, _, _, _, _⟩) (W'.X.keeps G6.fr.keep) (by k_is) ?_
  refine c_pc (s := ⟨h6, _, _, _, _⟩) ha3 W' G6 (Rd _).room fun s7 t7 B7 => ?_
  have G7 := B7.lg
  have hE7 : Ents s7.heap (vs ++ [.ref t2]) (es ++ [(f, p)]) := hE6.keep fun _ _ e => B7.kp _ _ e (notCore G6 ha3.notup e)
  have tk3 := B3.kp _ _ tk2 (notCore F2'.g ha2.notup tk2)
  have tk6 := kt6 _ _ (kt5 _ _ (Heap.get?_push_of_some _ tk3))
  have tk7 := B7.kp _ _ tk6 (notCore G6 ha3.notup tk6)
  have kt3 : ∀ b us, s.heap.get? b = some (tupObj us) → s3.heap.get? b = some (tupObj us) := fun b us e => by
    have e2 := B2.kp _ _ (kt1 _ _ e) (notCore G' ha.notup (kt1 _ _ e))
    exact B3.kp _ _ e2 (notCore F2'.g ha2.notup e2)
  have kt7 : ∀ b us, s.heap.get? b = some (tupObj us) → s7.heap.get? b = some (tupObj us) := fun b us e => by
    have e6 := kt6 _ _ (kt5 _ _ (Heap.get?_push_of_some _ (kt3 _ _ e)))
    exact B7.kp _ _ e6 (notCore G6 ha3.notup e6)
  refine wpAny_Constant_int ?_
  refine PyProof.Rows.sub_int ?_
  have hpc : (((vs ++ [Value.ref t2]).length : Nat) : Int) - 1 = (vs.length : Int) := by simp
  rw [hpc]
  refine spliced_more (wpAny_Constant_int (spliced_more (UnaryOp_ (wpAny_Constant_int (neg_int (spliced_none ?_))))))
  refine call_range_3 (by decide) ?_
  have G8 := G7.allocR { cls := .type "range", data := .fields #[.int (vs.length : Int) (s7.toks + 1), .int 0 (s7.toks + 1 + 1), .int (-1) (s7.toks + 1 + 1 + 1 + 1)] }
  refine wpAny_pyIter_range (G8.getR (i := 4) rfl) (small_down _ (by omega)) ?_
  have G9 := G8.allocR { cls := .type "range_iterator", data := .fields #[rawInt (vs.length : Int), rawInt (Builtin.Range.rangeSize (vs.length : Int) 0 (-1)), rawInt (-1)] }

  refine codeAny_mono (R := fun r s' => r = .ok .cont ∧ ∃ m', Lg g L' m' s'.heap (l3 ++ [(ls, listO lines n), (mk, mkObj md), (md, dictOf (mkE a1 a2 a3 a4 a5 a6 k1 k2 k3 k4 k5 k6 wd tw ts tl tc ls x) k), (s3.heap.objs.size, o5)]) ∧ m' "self" = some (.ref mk) ∧ Ents s'.heap (vs ++ [.ref t2]) (es ++ [(f, p)]) ∧ s'.heap.get? t2 = some (tupObj [.str f tf, .str p tp]) ∧ s'.os = s7.os ∧ (AllBare s7.gens → AllBare s'.gens) ∧ (∀ b us, s7.heap.get? b = some (tupObj us) → s'.heap.get? b = some (tupObj us))) ?_ (fun r s' hr => ?_)
  · rcases hcase with hcase | ⟨f0, p0, hcase, hp0, hq0⟩
    · have hvl0 : vs.length = 0 := by rw [hE.1, hcase]; rfl
      refine for_turn ?_
      refine wpAny_pyNext_range_end (Rd _).h (G9.getR (i := 5) rfl) (by rw [size_down _ (by omega)]; omega) fun h13 hx13 => ?_
      have G13 := Lg.loseLast (la := l3 ++ [(ls, listO lines n), (mk, mkObj md), (md, dictOf (mkE a1 a2 a3 a4 a5 a6 k1 k2 k3 k4 k5 k6 wd tw ts tl tc ls x) k), (s3.heap.objs.size, o5), _]) (by simpa using G9) hx13
      have kt13 := extTup hx13 (G9.getR (i := 5) rfl) (by simp)
      refine wpAny_execs_cons (wpAny_Continue ?_)
      exact ⟨rfl, _, G13.dropR (.cons_cons _ (.cons_cons _ (.cons_cons _ (.cons_cons _ (.cons _ (.refl _)))))), rfl, hE7.keep fun _ _ e => kt13 _ _ (Heap.get?_push_of_some _ (Heap.get?_push_of_some _ e)), kt13 _ _ (Heap.get?_push_of_some _ (Heap.get?_push_of_some _ tk7)), rfl, id, fun _ _ e => kt13 _ _ (Heap.get?_push_of_some _ (Heap.get?_push_of_some _ e))⟩
    · have hvl1 : vs.length = 1 := by rw [hE.1, hcase]; rfl
      obtain ⟨t0, tf0, tp0, ht0', hg0⟩ := hE7.2 0 (f0, p0) (by rw [hcase]; rfl)
      have hz0 : p0.length ≤ 1000 := (hz (f0, p0) (by rw [hcase]; simp)).2
      have ht0 : (vs ++ [Value.ref t2])[((vs.length : Int) - 1).toNat]? = some (.ref t0) := by rw [hvl1]; exact ht0'
      refine for_turn ?_
      refine wpAny_pyNext_range_item (G9.getR (i := 5) rfl) (by rw [size_down _ (by omega)]; omega) fun h10 hit10 hs10 => ?_
      have G10 := G9.writeR (i := 5) rfl hs10 hit10
      have kt10 := keepTup hs10 (G9.getR (i := 5) rfl) (by simp)
      refine wpAny_assign_Name ?_
      refine storeL (s := ⟨h10, _, _, _, _⟩) G10 fun h11 G11 kt11 ko11 => ?_
      have hE11 : Ents h11 (vs ++ [.ref t2]) (es ++ [(f, p)]) := hE7.keep fun _ _ e => kt11 _ _ (kt10 _ _ (Heap.get?_push_of_some _ (Heap.get?_push_of_some _ e)))
      refine wpAny_execs_cons ?_
      refine wpAny_If ?_
      refine isTrue_plain ?_
      refine MethodCall_ ?_
      refine nameX_L (s := ⟨h11, _, _, _, _⟩) G11.fr rfl ?_
      refine GM.isspace ?_
      refine callWith_method0 ?_
      refine SC.isspace ?_
      rw [show Txt.isspace ⟨#[44]⟩ = false from by decide +kernel]
      refine wpAny_truthy_bool ?_
      rw [if_neg (by decide)]
      refine wpAny_execs_nil ?_
      dsimp only
      refine wpAny_execs_cons ?_
      refine wpAny_Assign_Name ?_
      refine Subscript_ ?_
      refine Subscript_ ?_
      refine Attribute_any_ (nameX_L (s := ⟨h11, _, _, _, _⟩) G11.fr rfl (get_own (s := ⟨h11, _, _, _, _⟩) G11.fr W'.X (Im G11) (by k_is) (by k_is) (by k_is) (by k_is) rfl rfl ?_))
      refine wpAny_BinOp ?_
      refine nameX_L (s := ⟨h11, _, _, _, _⟩) G11.fr rfl ?_
      refine wpAny_Constant_int ?_
      refine PyProof.Rows.sub_int ?_
      have X11 := W'.X.keeps G11.fr.keep
      obtain ⟨nc, hkc, tkc, tzc, kc, Ic⟩ := ha3.instL G11
      refine tail_acc (s := ⟨h11, _, _, _, _⟩) X11 Ic.at_ ?_ (by rfl)
      refine getItem_acc (s := ⟨h11, _, _, _, _⟩) X11 Ic.at_ ?_
      refine getBody_int (s := ⟨h11, _, _, _, _⟩) (v := .ref t0) ⟨_, _, Ic.at_, rfl⟩ (by omega) (by omega) ht0 ⟨_, rfl, ?_⟩
      refine wpAny_Constant_int ?_
      refine item_tupleT (s := ⟨h11, _, _, _, _⟩) (l := [.str f0 tf0, .str p0 tp0]) (j := 1) ⟨_, kt11 _ _ (kt10 _ _ (Heap.get?_push_of_some _ (Heap.get?_push_of_some _ hg0))), rfl, _, rfl⟩ (by decide) (by decide) (by rfl) rfl ?_
      refine storeL (s := ⟨h11, _, _, _, _⟩) G11 fun h12 G12 kt12 ko12 => ?_
      dsimp only
      refine wpAny_execs_cons ?_
      refine wpAny_If ?_
      refine isTrue_and ?_
      refine isTrue_plain ?_
      refine nameX_L (s := ⟨h12, _, _, _, _⟩) G12.fr rfl ?_
      refine KXt.truthy_pos hp0 hz0 (by decide) fun k13 => ?_
      rw [if_pos rfl]
      refine isTrue_and ?_
      refine wpAny_isTrue_Compare1 ?_
      refine Subscript_UnaryOp ?_
      refine nameX_L (s := ⟨h12, _, _, _, _⟩) G12.fr rfl ?_
      refine UnaryOp_ (wpAny_Constant_int (neg_int ?_))
      refine SBL.item (by omega) (by omega) (by omega) fun _ => ?_
      refine nameX_L (s := ⟨h12, _, _, _, _⟩) G12.fr rfl ?_
      refine eq_str ?_

      rw [hq0]
      refine wpAny_truthy_bool ?_
      rw [if_neg (by decide), if_neg (by decide)]
      refine wpAny_execs_nil ?_
      dsimp only
      refine wpAny_execs_nil ?_
      dsimp only
      refine for_turn ?_
      refine wpAny_pyNext_range_end (s := ⟨h12, _, _, _, _⟩) (Rd _).h (G12.getR (i := 5) rfl) (by rw [size_down _ (by omega)]; omega) fun h13 hx13 => ?_
      have G13 := Lg.loseLast (la := l3 ++ [(ls, listO lines n), (mk, mkObj md), (md, dictOf (mkE a1 a2 a3 a4 a5 a6 k1 k2 k3 k4 k5 k6 wd tw ts tl tc ls x) k), (s3.heap.objs.size, o5), _]) (by simpa using G12) hx13
      have kt13 := extTup hx13 (G12.getR (i := 5) rfl) (by simp)
      refine wpAny_execs_cons (wpAny_Continue ?_)
      exact ⟨rfl, _, G13.dropR (.cons_cons _ (.cons_cons _ (.cons_cons _ (.cons_cons _ (.cons _ (.refl _)))))), rfl, hE11.keep fun _ _ e => kt13 _ _ (kt12 _ _ e), kt13 _ _ (kt12 _ _ (kt11 _ _ (kt10 _ _ (Heap.get?_push_of_some _ (Heap.get?_push_of_some _ tk7))))), rfl, id, fun _ _ e => kt13 _ _ (kt12 _ _ (kt11 _ _ (kt10 _ _ (Heap.get?_push_of_some _ (Heap.get?_push_of_some _ e)))))⟩
  obtain ⟨rfl, m', Gt, hself, hEt, tkt, hos, hgn, ktl⟩ := hr
  dsimp only
  refine for_turn ?_
  refine wpAny_pyNext_ascii_end (Rd _).h ⟨o5, Gt.getR (i := 3) rfl, hc5, hd5⟩ (by rfl) fun ht hxt => ?_
  have Gu := Lg.loseLast (la := l3 ++ [(ls, listO lines n), (mk, mkObj md), (md, dictOf (mkE a1 a2 a3 a4 a5 a6 k1 k2 k3 k4 k5 k6 wd tw ts tl tc ls x) k)]) (by simpa using Gt) hxt
  have ktt := extTup hxt (Gt.getR (i := 3) rfl) (by rw [hc5]; simp)
  have hEu : Ents ht (vs ++ [.ref t2]) (es ++ [(f, p)]) := hEt.keep fun _ _ e => ktt _ _ e
  have tku : ht.get? t2 = some (tupObj [.str f tf, .str p tp]) := ktt _ _ tkt
  refine wpAny_execs_cons ?_
  refine Assign_Tuple ?_
  refine MethodCall_ (Attribute_any_ (nameX_L (s := ⟨ht, _, _, _, _⟩) Gu.fr hself (get_own (s := ⟨ht, _, _, _, _⟩) Gu.fr W'.X (Im Gu) (by k_is) (by k_is) (by k_is) (by k_is) rfl rfl ?_)))
  obtain ⟨ne, hke, tke, tze, ke, Ie⟩ := ha3.instL Gu
  refine getm_any (s := ⟨ht, _, _, _, _⟩) (W'.X.keeps Gu.fr.keep) Ie (by k_is) (by decide +kernel) (by k_is) (by k_is) (by k_is) (by rfl) (by rfl) ?_
  refine callWith_K0 (s := ⟨ht, _, _, _, _⟩) (W'.X.keeps Gu.fr.keep) (by k_is) ?_
  refine c_pop (s := ⟨ht, _, _, _, _⟩) ha3 W' Gu (Rd _).room1 fun sv lv hav Bv => ?_
  have Gv := Bv.lg
  have tkv := Bv.kp _ _ tku (notCore Gu ha3.notup tku)
  refine wpAny_assign_Tuple (Rd _).h ⟨_, tkv, rfl, _, rfl⟩ rfl rfl fun hw hxw => ?_
  show wpAny _ _ (do holding [.str p tp] (assign _ _ (.str f tf)); do holding [] (assign _ _ (.str p tp)); pure ()) _ _ _
  have kw : ∀ b o, sv.heap.get? b = some o → hw.get? b = some o := fun b o e => hxw b o (Nat.ne_of_lt (Heap.lt_size e)) e
  have Gw := Gv.ext kw
  refine wpAny_bind (wpAny_holding (wpAny_assign_Name (storeL (s := ⟨hw, _, _, _, _⟩) Gw fun hx Gx ktx kox => ?_)))
  refine wpAny_bind (wpAny_holding (wpAny_assign_Name (storeL (s := ⟨hx, _, _, _, _⟩) Gx fun hy Gy kty koy => wpAny_pure ?_)))
  dsimp only
  have hselfy : (fun y => if y = Str.ofString "part" then some (Value.str p tp) else if y = Str.ofString "fws" then some (Value.str f tf) else m' y) "self" = some (.ref mk) := by
    show (if _ then _ else if _ then _ else m' _) = _
    rw [if_neg (by decide), if_neg (by decide)]; exact hself
  refine wpAny_execs_cons ?_
  refine wpAny_If ?_
  refine wpAny_isTrue_Compare1 ?_
  refine Attribute_any_ (Attribute_any_ (nameX_L (s := ⟨hy, _, _, _, _⟩) Gy.fr hselfy (get_own (s := ⟨hy, _, _, _, _⟩) Gy.fr W'.X (Im Gy) (by k_is) (by k_is) (by k_is) (by k_is) rfl rfl ?_)))
  obtain ⟨nf, hkf, tkf, tzf, kf, If⟩ := hav.instL Gy
  refine acc_get (s := ⟨hy, _, _, _, _⟩) (W'.X.keeps Gy.fr.keep) If.at_ If.dict (by k_is) rfl rfl ?_
  refine wpAny_Constant_int ?_
  refine PyProof.Rows.gt_int ?_
  refine wpAny_truthy_bool ?_
  rw [if_neg (by decide)]
  refine wpAny_execs_nil ?_
  dsimp only
  refine wpAny_execs_cons ?_
  refine wpAny_Expr_any ?_
  refine MethodCall_ ?_
  refine Attribute_any_ (nameX_L (s := ⟨hy, _, _, _, _⟩) Gy.fr hselfy (get_own (s := ⟨hy, _, _, _, _⟩) Gy.fr W'.X (Im Gy) (by k_is) (by k_is) (by k_is) (by k_is) rfl rfl ?_))
  refine getm_any (s := ⟨hy, _, _, _, _⟩) (W'.X.keeps Gy.fr.keep) If (by k_is) (by decide +kernel) (by k_is) (by k_is) (by k_is) (by rfl) (by rfl) ?_
  refine callWith_K (s := ⟨hy, _, _, _, _⟩) (W'.X.keeps Gy.fr.keep) (by k_is) (spliced_more (nameX_L (s := ⟨hy, _, _, _, _⟩) Gy.fr rfl (spliced_more (nameX_L (s := ⟨hy, _, _, _, _⟩) Gy.fr rfl (spliced_none ?_)))))
  refine ⟨W'.X.keeps Gy.fr.keep, ?_⟩
  refine c_push (s := ⟨hy, _, _, _, _⟩) hav hvl W' Gy (Rd _).room fun sz tz' lz haz Bz tkz frz => ?_
  refine wpAny_execs_cons (wpAny_Return_none ?_)
  refine h _ _ tz' ⟨lz, n, a1, a2, a3, a4, a5, a6, k1, k2, k3, k4, k5, k6, tw, ts, tl, tc, k, haz, hl, rfl⟩ (back _ _ _ Bz.lg ?_ ?_) tkz fun b us e => frz b us (kty _ _ (ktx _ _ (kw _ _ (Bv.kp _ _ (ktt _ _ (ktl _ _ (kt7 _ _ e))) (notCore Gu ha3.notup (ktt _ _ (ktl _ _ (kt7 _ _ e))))))))
  · exact Bz.os.trans (Bv.os.trans (hos.trans (B7.os.trans (B3.os.trans B2.os))))
  · exact fun q => Bz.gn (Bv.gn (hgn (B7.gn (B3.gn (B2.gn q)))))
end
end Mine
end
section
open PySem PySem.W PyProof.Rows PySem.Calls PySem.Spec Builtin Builtin.ObjectAttr
set_option Elab.async false
set_option maxRecDepth 100000
set_option maxHeartbeats 4000000
set_option pp.maxSteps 6000
namespace Mine
theorem fill28 (w : World) (h₀ : Heap) : (hd.heap_1 w.params).In h₀ → PySem.Challenge.rw_zd0011_01.Holds → True := by k_fill; intros; trivial
section
variable {w : World} {mg mb : Str → Option Value} {A : Around} {s : Shared} {h₀ h : Heap} {L K : Addr} {m : Str → Option Value} {l la r rest news : List (Addr × Obj)} {Q E : Value → Shared → Prop}

theorem Ents.init {h : Heap} {vs : List Value} {es : List Ent} {v : Value} {e : Ent} (x : Ents h (vs ++ [v]) (es ++ [e])) : Ents h vs es := by
  have hl := x.1
  simp at hl
  refine ⟨hl, fun i e' hi => ?_⟩
  have hi' := (List.getElem?_eq_some_iff.mp hi).1
  obtain ⟨t', a, b, c, g⟩ := x.2 i e' (by rw [List.getElem?_append_left hi']; exact hi)
  exact ⟨t', a, b, by rw [List.getElem?_append_left (by omega)] at c; exact c, g⟩
theorem Lg.moveFront {p : Addr × Obj} (G : Lg h₀ L m h ((p :: la) ++ r)) : Lg h₀ L m h (la ++ (r ++ [p])) := by
  rw [← List.append_assoc]
  exact G.perm (List.perm_append_singleton p (la ++ r))
theorem c_chunkC {mk md ls x d : Addr} {wd : Int} {lines vs : List Value} {es : List Ent} {f p : Str} {tf tp : Tok} (hm : Mk mk md ls x d wd lines vs l) (hE : Ents s.heap vs es) (hz : ∀ e ∈ es ++ [(f, p)], e.1.length ≤ 1000 ∧ e.2.length ≤ 1000) (hvl : vs.length < 100)
    (hfit : wd < ((elen (es ++ [(f, p)]) : Nat) : Int)) {es0 : List Ent} {f0 p0 : Str} (hcase : es = es0 ++ [(f0, p0)]) (hp0 : 1 ≤ p0.length) (hq0 : (Txt.item p0 (-1) == ({ cps := #[44] } : Str)) = true) (hln : lines.length < 100)
    (R : Rm A 14) (W : Wd w mg mb h₀) (G : Lg h₀ L m s.heap (l ++ rest))
    (h : ∀ s' l' t tq, Mk mk md ls x d wd (lines ++ [.str (eStr es) tq]) [.ref t] l' → Bk s h₀ L m l rest s' l' → s'.heap.get? t = some (tupObj [.str f tf, .str p tp]) → (∀ b us, s.heap.get? b = some (tupObj us) → b ≠ t) → Q .none s') : wpAny (model PP w) A (call (.ref 133) [.ref mk, .str f tf, .str p tp]) Q E s := by
  have hm0 := hm
  obtain ⟨la, n, a1, a2, a3, a4, a5, a6, k1, k2, k3, k4, k5, k6, tw, ts, tl, tc, k, ha, hl, rfl⟩ := hm
  refine call_def (cl := []) (binds := [("self", .ref mk), ("fws", .str f tf), ("string", .str p tp)]) W G (by k_is) rfl (by k_is) R.room (.of_eq rfl) (by rfl) ?_ (by decide)
  intro g L' h₁ W' kp G' back
  have hE1 : Ents h₁ vs es := hE.keep fun _ _ e => G'.fr.keep _ _ (kp _ _ e (notCore G hm0.notup e))
  have kt1 : ∀ b us, s.heap.get? b = some (tupObj us) → h₁.get? b = some (tupObj us) := fun _ _ e => G'.fr.keep _ _ (kp _ _ e (notCore G hm0.notup e))
  have Rd : ∀ env : Env, Rm (A.deeper env) 13 := fun env => R.deep
  have Im : ∀ {h' : Heap} {la' r'} {mm}, Lg g L' mm h' (la' ++ ((ls, listO lines n) :: (mk, mkObj md) :: (md, dictOf (mkE a1 a2 a3 a4 a5 a6 k1 k2 k3 k4 k5 k6 wd tw ts tl tc ls x) k) :: r')) →
      PySem.W.InstAt h' mk (mkObj md) 136 (some (dictOf (mkE a1 a2 a3 a4 a5 a6 k1 k2 k3 k4 k5 k6 wd tw ts tl tc ls x) k)) := fun G => ⟨G.getR (i := 1) rfl, rfl, rfl, G.getR (i := 2) rfl⟩
  refine wpAny_execs_cons ?_
  refine wpAny_Expr_any ?_
  refine MethodCall_ ?_
  refine Attribute_any_ (nameX_L G'.fr rfl (get_own G'.fr W'.X (Im G') (by k_is) (by k_is) (by k_is) (by k_is) rfl rfl ?_))
  obtain ⟨na, hka, tka, tza, ka, Ia⟩ := ha.instL G'
  refine getm_any (W'.X.keeps G'.fr.keep) Ia (by k_is) (by decide +kernel) (by k_is) (by k_is) (by k_is) (by rfl) (by rfl) ?_
  refine callWith_K (W'.X.keeps G'.fr.keep) (by k_is) (spliced_more (nameX_L G'.fr rfl (spliced_more (nameX_L G'.fr rfl (spliced_none ?_)))))
  refine ⟨W'.X.keeps G'.fr.keep, ?_⟩
  refine c_push (s := ⟨h₁, _, _, _, _⟩) ha hvl W' G' (Rd _).room fun s2 t2 l2 ha2 B2 tk2 fr2 => ?_
  have hE2 : Ents s2.heap (vs ++ [.ref t2]) (es ++ [(f, p)]) := (hE1.keep fun _ _ e => B2.kp _ _ e (notCore G' ha.notup e)).append tk2
  have F2 : AccF s2 x d (vs ++ [.ref t2]) (es ++ [(f, p)]) g L' _ l2 _ := ⟨ha2, hE2, hz, B2.lg⟩
  refine wpAny_execs_cons ?_
  refine wpAny_If ?_
  refine wpAny_isTrue_Compare1 ?_
  refine Call_ ?_
  refine nameX_B F2.g.fr W'.X W'.T (by k_is) (by boot_by_name) (by decide) ?_
  refine PyProof.Rows.callWith_builtin1 (spliced_more (Attribute_any_ (nameX_L F2.g.fr rfl (get_own F2.g.fr W'.X (Im F2.g) (by k_is) (by k_is) (by k_is) (by k_is) rfl rfl ?_))))
  refine spliced_none ?_
  have F2' : AccF { s2 with toks := s2.toks + 1 } x d (vs ++ [.ref t2]) (es ++ [(f, p)]) g L' _ l2 _ := ⟨ha2, hE2, hz, B2.lg⟩
  refine len_acc F2' ((Rd _).le (by decide)) W' fun s3 t3 l3 ha3 B3 => ?_
  have F3 := F2'.back ha3 B3
  refine Attribute_any_ (nameX_L F3.g.fr rfl (get_own F3.g.fr W'.X (Im F3.g) (by k_is) (by k_is) (by k_is) (by k_is) rfl rfl ?_))
  refine PyProof.Rows.gt_int ?_
  refine wpAny_truthy_bool ?_
  rw [show decide (wd < ((elen (es ++ [(f, p)]) : Nat) : Int)) = true from decide_eq_true (by omega), if_pos rfl]
  refine wpAny_execs_cons ?_
  refine wpAny_For ?_
  refine Attribute_any_ (nameX_L F3.g.fr rfl (get_own F3.g.fr W'.X (Im F3.g) (by k_is) (by k_is) (by k_is) (by k_is) rfl rfl ?_))
  refine wpAny_pyIter_ascii (by decide +kernel) ?_
  have G4 := F3.g.allocR { cls := .type "str_ascii_iterator", data := .fields #[.str (Str.ofString ",") tc, .int 0 0] }
  refine for_turn ?_
  refine wpAny_pyNext_ascii_item (c := 44) ⟨_, G4.getR (i := 3) rfl, rfl, rfl⟩ rfl fun h5 hit5 hs5 => ?_
  obtain ⟨o5, ho5, hc5, hd5⟩ := id hit5
  have G5 := G4.writeR (i := 3) rfl hs5 ho5
  have kt5 := keepTup hs5 (G4.getR (i := 3) rfl) (by simp)
  refine wpAny_assign_Name ?_
  refine storeL G5 fun h6 G6 kt6 ko6 => ?_
  have hE6 : Ents h6 (vs ++ [.ref t2]) (es ++ [(f, p)]) := F3.e.keep fun _ _ e => kt6 _ _ (kt5 _ _ (Heap.get?_push_of_some _ e))
  refine wpAny_execs_cons ?_
  refine wpAny_For ?_
  refine Call_ ?_
  refine nameX_B G6.fr W'.X W'.T (by k_is) (by boot_by_name) (by decide) ?_
  refine PyProof.Rows.callWith_type1 (spliced_more (wpAny_BinOp (MethodCall_ (Attribute_any_ (nameX_L G6.fr rfl (get_own (s := ⟨h6, _, _, _, _⟩) G6.fr W'.X (Im G6) (by k_is) (by k_is) (by k_is) (by k_is) rfl rfl ?_))))))
  obtain ⟨nb, hkb, tkb, tzb, kb, Ib⟩ := ha3.instL G6
  refine getm_any (s := ⟨h6, _, _, _, _⟩) (W'.X.keeps G6.fr.keep) Ib (by k_is) (by decide +kernel) (by k_is) (by k_is) (by k_is) (by rfl) (by rfl) ?_
  refine callWith_K0 (s := ⟨h6, _, _, _, _⟩) (W'.X.keeps G6.fr.keep) (by k_is) ?_
  refine c_pc (s := ⟨h6, _, _, _, _⟩) ha3 W' G6 (Rd _).room fun s7 t7 B7 => ?_
  have G7 := B7.lg
  have hE7 : Ents s7.heap (vs ++ [.ref t2]) (es ++ [(f, p)]) := hE6.keep fun _ _ e => B7.kp _ _ e (notCore G6 ha3.notup e)
  have tk3 := B3.kp _ _ tk2 (notCore F2'.g ha2.notup tk2)
  have tk6 := kt6 _ _ (kt5 _ _ (Heap.get?_push_of_some _ tk3))
  have tk7 := B7.kp _ _ tk6 (notCore G6 ha3.notup tk6)
  refine wpAny_Constant_int ?_
  refine PyProof.Rows.sub_int ?_
  have hpc : (((vs ++ [Value.ref t2]).length : Nat) : Int) - 1 = (vs.length : Int) := by simp
  rw [hpc]
  refine spliced_more (wpAny_Constant_int (spliced_more (UnaryOp_ (wpAny_Constant_int (neg_int (spliced_none ?_))))))
  refine call_range_3 (by decide) ?_
  have G8 := G7.allocR { cls := .type "range", data := .fields #[.int (vs.length : Int) (s7.toks + 1), .int 0 (s7.toks + 1 + 1), .int (-1) (s7.toks + 1 + 1 + 1 + 1)] }
  refine wpAny_pyIter_range (G8.getR (i := 4) rfl) (small_down _ (by omega)) ?_
  have G9 := G8.allocR { cls := .type "range_iterator", data := .fields #[rawInt (vs.length : Int), rawInt (Builtin.Range.rangeSize (vs.length : Int) 0 (-1)), rawInt (-1)] }

  have hvl1 : vs.length = es0.length + 1 := by rw [hE.1, hcase, List.length_append]; rfl
  obtain ⟨t0, tf0, tp0, ht0', hg0⟩ := hE7.2 es0.length (f0, p0) (by rw [hcase]; simp)
  have hz0 : p0.length ≤ 1000 := (hz (f0, p0) (by rw [hcase]; simp)).2
  have ht0 : (vs ++ [Value.ref t2])[((vs.length : Int) - 1).toNat]? = some (.ref t0) := by rw [hvl1]; simpa using ht0'
  refine for_turn ?_
  refine wpAny_pyNext_range_item (G9.getR (i := 5) rfl) (by rw [size_down _ (by omega)]; omega) fun h10 hit10 hs10 => ?_
  have G10 := G9.writeR (i := 5) rfl hs10 hit10
  have kt10 := keepTup hs10 (G9.getR (i := 5) rfl) (by simp)
  refine wpAny_assign_Name ?_
  refine storeL (s := ⟨h10, _, _, _, _⟩) G10 fun h11 G11 kt11 ko11 => ?_
  have hE11 : Ents h11 (vs ++ [.ref t2]) (es ++ [(f, p)]) := hE7.keep fun _ _ e => kt11 _ _ (kt10 _ _ (Heap.get?_push_of_some _ (Heap.get?_push_of_some _ e)))
  refine wpAny_execs_cons ?_
  refine wpAny_If ?_
  refine isTrue_plain ?_
  refine MethodCall_ ?_
  refine nameX_L (s := ⟨h11, _, _, _, _⟩) G11.fr rfl ?_
  refine GM.isspace ?_
  refine callWith_method0 ?_
  refine SC.isspace ?_
  rw [show Txt.isspace ⟨#[44]⟩ = false from by decide +kernel]
  refine wpAny_truthy_bool ?_
  rw [if_neg (by decide)]
  refine wpAny_execs_nil ?_
  dsimp only
  refine wpAny_execs_cons ?_
  refine wpAny_Assign_Name ?_
  refine Subscript_ ?_
  refine Subscript_ ?_
  refine Attribute_any_ (nameX_L (s := ⟨h11, _, _, _, _⟩) G11.fr rfl (get_own (s := ⟨h11, _, _, _, _⟩) G11.fr W'.X (Im G11) (by k_is) (by k_is) (by k_is) (by k_is) rfl rfl ?_))
  refine wpAny_BinOp ?_
  refine nameX_L (s := ⟨h11, _, _, _, _⟩) G11.fr rfl ?_
  refine wpAny_Constant_int ?_
  refine PyProof.Rows.sub_int ?_
  have X11 := W'.X.keeps G11.fr.keep
  obtain ⟨nc, hkc, tkc, tzc, kc, Ic⟩ := ha3.instL G11
  refine tail_acc (s := ⟨h11, _, _, _, _⟩) X11 Ic.at_ ?_ (by rfl)
  refine getItem_acc (s := ⟨h11, _, _, _, _⟩) X11 Ic.at_ ?_
  refine getBody_int (s := ⟨h11, _, _, _, _⟩) (v := .ref t0) ⟨_, _, Ic.at_, rfl⟩ (by omega) (by omega) ht0 ⟨_, rfl, ?_⟩
  refine wpAny_Constant_int ?_
  refine item_tupleT (s := ⟨h11, _, _, _, _⟩) (l := [.str f0 tf0, .str p0 tp0]) (j := 1) ⟨_, kt11 _ _ (kt10 _ _ (Heap.get?_push_of_some _ (Heap.get?_push_of_some _ hg0))), rfl, _, rfl⟩ (by decide) (by decide) (by rfl) rfl ?_
  refine storeL (s := ⟨h11, _, _, _, _⟩) G11 fun h12 G12 kt12 ko12 => ?_
  dsimp only
  refine wpAny_execs_cons ?_
  refine wpAny_If ?_
  refine isTrue_and ?_
  refine isTrue_plain ?_
  refine nameX_L (s := ⟨h12, _, _, _, _⟩) G12.fr rfl ?_
  refine KXt.truthy_pos hp0 hz0 (by decide) fun k13 => ?_
  rw [if_pos rfl]
  refine isTrue_and ?_
  refine wpAny_isTrue_Compare1 ?_
  refine Subscript_UnaryOp ?_
  refine nameX_L (s := ⟨h12, _, _, _, _⟩) G12.fr rfl ?_
  refine UnaryOp_ (wpAny_Constant_int (neg_int ?_))
  refine SBL.item (by omega) (by omega) (by omega) fun _ => ?_
  refine nameX_L (s := ⟨h12, _, _, _, _⟩) G12.fr rfl ?_
  refine eq_str ?_

  rw [hq0]
  refine wpAny_truthy_bool ?_
  rw [if_pos rfl]
  refine isTrue_and_nil ?_
  rw [if_pos rfl]
  refine wpAny_execs_cons (wpAny_Break ?_)
  dsimp only
  refine wpAny_execs_cons (wpAny_Break ?_)
  dsimp only
  have G13 := G12.dropR (r' := [(ls, listO lines n), (mk, mkObj md), (md, dictOf (mkE a1 a2 a3 a4 a5 a6 k1 k2 k3 k4 k5 k6 wd tw ts tl tc ls x) k)]) (.cons_cons _ (.cons_cons _ (.cons_cons _ (.cons _ (.cons _ (.cons _ (.refl _)))))))
  have ktall : ∀ b us, s7.heap.get? b = some (tupObj us) → h12.get? b = some (tupObj us) := fun b us e => kt12 _ _ (kt11 _ _ (kt10 _ _ (Heap.get?_push_of_some _ (Heap.get?_push_of_some _ e))))
  refine wpAny_execs_cons ?_
  refine wpAny_Assign_Name ?_
  refine MethodCall_ (Attribute_any_ (nameX_L (s := ⟨h12, _, _, _, _⟩) G13.fr rfl (get_own (s := ⟨h12, _, _, _, _⟩) G13.fr W'.X (Im G13) (by k_is) (by k_is) (by k_is) (by k_is) rfl rfl ?_)))
  obtain ⟨ne, hke, tke, tze, ke, Ie⟩ := ha3.instL G13
  refine getm_any (s := ⟨h12, _, _, _, _⟩) (W'.X.keeps G13.fr.keep) Ie (by k_is) (by decide +kernel) (by k_is) (by k_is) (by k_is) (by rfl) (by rfl) ?_
  refine callWith_K (s := ⟨h12, _, _, _, _⟩) (W'.X.keeps G13.fr.keep) (by k_is) (spliced_more (nameX_L (s := ⟨h12, _, _, _, _⟩) G13.fr rfl (spliced_none ?_)))
  refine ⟨W'.X.keeps G13.fr.keep, ?_⟩
  refine c_popfrom (s := ⟨h12, _, _, _, _⟩) (k := vs.length) ha3 (by simp) ((Rd _).le (by decide)) W' G13 fun s14 pr l14 n14 ha14 B14 => ?_
  rw [List.take_left' rfl] at ha14
  have G14 := Lg.moveFront (la := l14) B14.lg
  have hE14 : Ents s14.heap (vs ++ [.ref t2]) (es ++ [(f, p)]) := hE7.keep fun _ _ e => B14.kp _ _ (ktall _ _ e) (notCore G13 ha3.notup (ktall _ _ e))
  have tk14 := B14.kp _ _ (ktall _ _ tk7) (notCore G13 ha3.notup (ktall _ _ tk7))
  refine storeL G14 fun h15 G15 kt15 ko15 => ?_
  have hE15 : Ents h15 vs es := Ents.init (hE14.keep fun _ _ e => kt15 _ _ e)
  have F15 : AccF ⟨h15, s14.gens, s14.drawn, s14.toks + 1, s14.os⟩ x d vs es g L' _ l14 _ := ⟨ha14, hE15, fun e he => hz e (List.mem_append_left _ he), G15⟩
  dsimp only
  refine wpAny_execs_cons ?_
  refine wpAny_Expr_any ?_
  refine MethodCall_ ?_
  refine Attribute_any_ (nameX_L (s := ⟨h15, _, _, _, _⟩) G15.fr rfl (get_own (s := ⟨h15, _, _, _, _⟩) G15.fr W'.X (Im G15) (by k_is) (by k_is) (by k_is) (by k_is) rfl rfl ?_))
  refine Calls.getMethod_list_append (s := ⟨h15, _, _, _, _⟩) (G15.getR (i := 0) rfl) rfl rfl ?_
  refine callWith_method1 ?_
  refine spliced_more ?_
  refine Call_ ?_
  refine nameX_B (s := ⟨h15, _, _, _, _⟩) G15.fr W'.X W'.T (by k_is) (by boot_by_name) (by decide) ?_
  refine PyProof.Rows.callWith_type1 (spliced_more (Attribute_any_ (nameX_L (s := ⟨h15, _, _, _, _⟩) G15.fr rfl (get_own (s := ⟨h15, _, _, _, _⟩) G15.fr W'.X (Im G15) (by k_is) (by k_is) (by k_is) (by k_is) rfl rfl ?_))))
  refine spliced_none ?_
  have F15' : AccF ⟨h15, s14.gens, s14.drawn, s14.toks + 1 + 1 + 1, s14.os⟩ x d vs es g L' _ l14 _ := ⟨ha14, hE15, fun e he => hz e (List.mem_append_left _ he), G15⟩
  refine str_acc F15' ((Rd _).le (by decide)) W' fun s16 t16 l16 ha16 B16 => ?_
  have tk16 := B16.kp _ _ (kt15 _ _ tk14) (notCore G15 ha14.notup (kt15 _ _ tk14))
  refine spliced_none ?_
  refine lst_append B16.lg (i := 0) rfl (by omega) fun h17 n17 G17 hs17 => ?_
  have tk17 : h17.get? t2 = some (tupObj [.str f tf, .str p tp]) := keepTup hs17 (B16.lg.getR (i := 0) rfl) (by simp) _ _ tk16
  dsimp only
  refine wpAny_execs_cons ?_
  refine wpAny_Expr_any ?_
  refine MethodCall_ ?_
  have Im2 : PySem.W.InstAt h17 mk (mkObj md) 136 (some (dictOf (mkE a1 a2 a3 a4 a5 a6 k1 k2 k3 k4 k5 k6 wd tw ts tl tc ls x) k)) := ⟨G17.getR (i := 1) rfl, rfl, rfl, G17.getR (i := 2) rfl⟩
  refine Attribute_any_ (nameX_L (s := ⟨h17, _, _, _, _⟩) G17.fr rfl (get_own (s := ⟨h17, _, _, _, _⟩) G17.fr W'.X Im2 (by k_is) (by k_is) (by k_is) (by k_is) rfl rfl ?_))
  obtain ⟨nc', hkc', tkc', tzc', kc', Ic'⟩ := ha16.instL G17
  refine getm_any (s := ⟨h17, _, _, _, _⟩) (W'.X.keeps G17.fr.keep) Ic' (by k_is) (by decide +kernel) (by k_is) (by k_is) (by k_is) (by rfl) (by rfl) ?_
  refine callWith_K (s := ⟨h17, _, _, _, _⟩) (W'.X.keeps G17.fr.keep) (by k_is) (spliced_more (nameX_L (s := ⟨h17, _, _, _, _⟩) G17.fr rfl (spliced_none ?_)))
  refine ⟨W'.X.keeps G17.fr.keep, ?_⟩
  have hpr : h17.get? pr = some (listO [.ref t2] n14) := by
    have := G17.getR (i := 3) (a := pr) (o := listO ((vs ++ [Value.ref t2]).drop vs.length) n14) rfl
    rw [List.drop_left' rfl] at this
    exact this
  refine c_reset1 (s := ⟨h17, _, _, _, _⟩) (us := [.ref t2]) ha16 hpr (by simp) ((Rd _).le (by decide)) W' G17 fun s18 l18 ha18 B18 => ?_
  have tk18 := B18.kp _ _ tk17 (notCore G17 ha16.notup tk17)
  refine wpAny_execs_nil ?_
  dsimp only
  refine wpAny_execs_nil ?_
  refine h _ _ t2 t16 ⟨l18, n17, a1, a2, a3, a4, a5, a6, k1, k2, k3, k4, k5, k6, tw, ts, tl, tc, k, ha18, by simp; omega, rfl⟩ (back _ _ _ (B18.lg.dropR (.cons_cons _ (.cons_cons _ (.cons_cons _ (.cons _ (.refl _)))))) ?_ ?_) tk18 fun b us e => fr2 b us (kt1 _ _ e)
  · exact B18.os.trans (B16.os.trans (B14.os.trans (B7.os.trans (B3.os.trans B2.os))))
  · exact fun q => B18.gn (B16.gn (B14.gn (B7.gn (B3.gn (B2.gn q)))))
end
end Mine
end
section
open PySem PySem.W PyProof.Rows PySem.Calls PySem.Spec Builtin Builtin.ObjectAttr
set_option Elab.async false
set_option maxRecDepth 100000
set_option maxHeartbeats 4000000
set_option pp.maxSteps 6000
namespace Mine
theorem fill29 (w : World) (h₀ : Heap) : (hd.heap_1 w.params).In h₀ → PySem.Challenge.rw_zd0011_01.Holds → True := by k_fill; intros; trivial
section
variable {w : World} {mg mb : Str → Option Value} {A : Around} {s : Shared} {h₀ h : Heap} {L K : Addr} {m : Str → Option Value} {l la r rest news : List (Addr × Obj)} {Q E : Value → Shared → Prop}

/-- a zip over one and the same iterator of a list, twice -/
structure Zip1 (h : Heap) (z TI TO i l : Addr) (f0 : Value) (k : Nat) (xs : List Value) : Prop where
  z : IsZip h z TI TO f0
  ti : IsPair h TI (.ref i) (.ref i)
  to : ∃ a b, IsPair h TO a b
  it : h.IsListIter i l k
  ls : h.IsList l xs.toArray
structure Apart1 (z TI TO i l : Addr) : Prop where
  a1 : TI ≠ z
  a2 : TO ≠ z
  a3 : i ≠ z
  a4 : TI ≠ TO
  a5 : TI ≠ i
  a6 : TO ≠ i
  a7 : l ≠ z
  a8 : l ≠ TO
  a9 : l ≠ i

theorem zip1_item {z TI TO i l : Addr} {k : Nat} {xs : List Value} {x y : Value} {Q : Option Value → Shared → Prop} (D : Apart1 z TI TO i l) (Z : Zip1 s.heap z TI TO i l .none k xs) (hx : xs[k]? = some x) (hy : xs[k + 1]? = some y)
    (hQ : ∀ h', Zip1 h' z TI TO i l (rawInt s.heap.objs.size) (k + 2) xs → IsPair h' s.heap.objs.size x y → h'.objs.size = s.heap.objs.size + 1 →
      (∀ c o, c ≠ z → c ≠ TO → c ≠ i → s.heap.get? c = some o → h'.get? c = some o) → Q (some (.ref s.heap.objs.size)) { s with heap := h' }) :
    wpAny (model PP w) A (pyNext (.ref z)) Q E s := by
  obtain ⟨hz, hTI, ⟨a, b, hTO⟩, h1, hl1⟩ := Z
  have hT : s.TypeIs (.ref z) "zip" := ⟨_, hz, rfl⟩
  unfold pyNext
  refine wpAny_bind (wpAny_attempt (wpAny_callSpecial?_slot (name := Str.ofString "__next__") hT PySem.F.slot_zip_next (wpAny_call_entry PySem.F.slot_zip_next hT PySem.F.entry_zip_next ?_ (PySem.F.args_zip_next_1 _))))
  show wpAny _ _ (field (.ref z) 2 >>= _) _ _ _
  refine wpAny_bind (wpAny_field hz rfl (x := .bool false) rfl ?_)
  show wpAny _ _ (field (.ref z) 3 >>= _) _ _ _
  refine wpAny_bind (wpAny_field hz rfl (x := .ref TI) rfl ?_)
  refine wpAny_bind (wpAny_seqItems hTI rfl ?_)
  show wpAny _ _ (Builtin.SmallTypes.ownedTupleIsFree (.ref z) >>= _) _ _ _
  refine wpAny_bind ?_
  unfold Builtin.SmallTypes.ownedTupleIsFree
  refine wpAny_bind (wpAny_field hz rfl (x := .none) rfl (wpAny_pure ?_))
  simp only [if_true]
  refine wpAny_bind (wpAny_rule ?_)
  refine wpAny_bind (wpAny_field hz rfl (x := .ref TO) rfl ?_)
  refine wpAny_bind (wpAny_setField_rec hz (by simp) fun h₁ hz₁ hs₁ => ?_)
  replace hz₁ : IsZip h₁ z TI TO .ellipsis := hz₁
  refine wpAny_bind ?_
  simp only [List.zipIdx_cons, List.zipIdx_nil, List.forIn_cons, List.forIn_nil]
  refine wpAny_bind (wpAny_bind (wpAny_onRaise ?_))
  show wpAny _ _ (Builtin.SmallTypes.nextOf (.ref i) >>= _) _ _ _
  have h1₁ := h1.extBut hs₁.extBut D.a3
  have hl₁ := hl1.extBut hs₁.extBut D.a7
  refine wpAny_bind (wpAny_nextOf_list_item h1₁ hl₁ (by simpa using hx) fun h₂ h1₂ hs₂ => wpAny_pure ?_)
  have hTO₂ : IsPair h₂ TO a b := hs₂.extBut _ _ D.a6 (hs₁.extBut _ _ D.a2 hTO)
  have hl₂ := hl₁.extBut hs₂.extBut D.a9
  refine wpAny_bind (wpAny_seqItems hTO₂ rfl ?_)
  refine wpAny_bind (wpAny_updateSeq_pair hTO₂ fun h₃ hTO₃ hs₃ => ?_)
  replace hTO₃ : IsPair h₃ TO x b := hTO₃
  refine wpAny_bind (wpAny_letGo (wpAny_pure ?_))
  refine wpAny_bind (wpAny_bind (wpAny_onRaise ?_))
  show wpAny _ _ (Builtin.SmallTypes.nextOf (.ref i) >>= _) _ _ _
  have h1₃ := h1₂.extBut hs₃.extBut D.a6.symm
  have hl₃ := hl₂.extBut hs₃.extBut D.a8
  refine wpAny_bind (wpAny_nextOf_list_item h1₃ hl₃ (by simpa using hy) fun h₄ h1₄ hs₄ => wpAny_pure ?_)
  have hTO₄ : IsPair h₄ TO x b := hs₄.extBut _ _ D.a6 hTO₃
  have hl₄ := hl₃.extBut hs₄.extBut D.a9
  refine wpAny_bind (wpAny_seqItems hTO₄ rfl ?_)
  refine wpAny_bind (wpAny_updateSeq_pair hTO₄ fun h₅ hTO₅ hs₅ => ?_)
  replace hTO₅ : IsPair h₅ TO x y := hTO₅
  refine wpAny_bind (wpAny_letGo (wpAny_pure (wpAny_pure ?_)))
  refine wpAny_bind (wpAny_seqItems hTO₅ rfl ?_)
  refine wpAny_bind (wpAny_newTuple ?_)
  have h1₅ := h1₄.extBut hs₅.extBut D.a6.symm
  have hl₅ := hl₄.extBut hs₅.extBut D.a8
  have hsz : h₅.objs.size = s.heap.objs.size := by rw [hs₅.1, hs₄.1, hs₃.1, hs₂.1, hs₁.1]
  have hz₅ : IsZip h₅ z TI TO .ellipsis := hs₅.extBut _ _ D.a2.symm (hs₄.extBut _ _ D.a3.symm (hs₃.extBut _ _ D.a2.symm (hs₂.extBut _ _ D.a3.symm hz₁)))
  have hk₅ : ∀ c o, c ≠ z → c ≠ TO → c ≠ i → s.heap.get? c = some o → h₅.get? c = some o := fun c o c1 c2 c3 e =>
    hs₅.extBut _ _ c2 (hs₄.extBut _ _ c3 (hs₃.extBut _ _ c2 (hs₂.extBut _ _ c3 (hs₁.extBut _ _ c1 e))))
  have hzlt : z < h₅.objs.size := Heap.lt_size hz₅
  show wpAny _ _ (Builtin.SmallTypes.ownedTupleHandOut (.ref z) (.ref h₅.objs.size) >>= _) _ _ _
  refine wpAny_bind ?_
  unfold Builtin.SmallTypes.ownedTupleHandOut
  have hz₆ : IsZip (h₅.push { cls := .type "tuple", data := .seq #[x, y] }) z TI TO .ellipsis := Heap.get?_push_of_some _ hz₅
  refine wpAny_bind (wpAny_setField_rec hz₆ (by simp) fun h₇ hz₇ hs₇ => ?_)
  replace hz₇ : IsZip h₇ z TI TO (rawInt h₅.objs.size) := hz₇
  refine wpAny_setField_rec hz₇ (by simp) fun h₈ hz₈ hs₈ => ?_
  replace hz₈ : IsZip h₈ z TI TO (rawInt h₅.objs.size) := hz₈
  have up : ∀ c o, c ≠ z → h₅.get? c = some o → h₈.get? c = some o := fun c o c1 e => hs₈.extBut _ _ c1 (hs₇.extBut _ _ c1 (Heap.get?_push_of_some _ e))
  have hT₈ : IsPair h₈ h₅.objs.size x y := hs₈.extBut _ _ (Nat.ne_of_gt hzlt) (hs₇.extBut _ _ (Nat.ne_of_gt hzlt) (Heap.get?_push_size _ rfl))
  have hz8 : h₈.objs.size = h₅.objs.size + 1 := by rw [hs₈.1, hs₇.1, Heap.size_push]
  rw [hsz] at hz₈ hT₈ hz8
  refine wpAny_pure ⟨_, rfl, wpAny_pure ?_⟩
  show Q (some (.ref h₅.objs.size)) _
  rw [hsz]
  exact hQ h₈ ⟨hz₈, up _ _ D.a1 (hk₅ _ _ D.a1 D.a4 D.a5 hTI), ⟨x, y, up _ _ D.a2 hTO₅⟩, h1₅.at fun o e => up _ o D.a3 e, hl₅.at fun o e => up _ o D.a7 e⟩ hT₈ hz8 fun c o c1 c2 c3 e => up c o c1 (hk₅ c o c1 c2 c3 e)

theorem zip1_end {z TI TO i l : Addr} {k : Nat} {xs : List Value} {Q : Option Value → Shared → Prop} (hh : A.handled = none) (D : Apart1 z TI TO i l) (Z : Zip1 s.heap z TI TO i l .none k xs) (hx : xs[k]? = none)
    (hQ : ∀ h', (∀ c o, c ≠ z → c ≠ TO → c ≠ i → s.heap.get? c = some o → h'.get? c = some o) → Q none { s with heap := h' }) :
    wpAny (model PP w) A (pyNext (.ref z)) Q E s := by
  obtain ⟨hz, hTI, ⟨a, b, hTO⟩, h1, hl1⟩ := Z
  have hT : s.TypeIs (.ref z) "zip" := ⟨_, hz, rfl⟩
  unfold pyNext
  refine wpAny_bind (wpAny_attempt (wpAny_callSpecial?_slot (name := Str.ofString "__next__") hT PySem.F.slot_zip_next (wpAny_call_entry PySem.F.slot_zip_next hT PySem.F.entry_zip_next ?_ (PySem.F.args_zip_next_1 _))))
  show wpAny _ _ (field (.ref z) 2 >>= _) _ _ _
  refine wpAny_bind (wpAny_field hz rfl (x := .bool false) rfl ?_)
  show wpAny _ _ (field (.ref z) 3 >>= _) _ _ _
  refine wpAny_bind (wpAny_field hz rfl (x := .ref TI) rfl ?_)
  refine wpAny_bind (wpAny_seqItems hTI rfl ?_)
  show wpAny _ _ (Builtin.SmallTypes.ownedTupleIsFree (.ref z) >>= _) _ _ _
  refine wpAny_bind ?_
  unfold Builtin.SmallTypes.ownedTupleIsFree
  refine wpAny_bind (wpAny_field hz rfl (x := .none) rfl (wpAny_pure ?_))
  simp only [if_true]
  refine wpAny_bind (wpAny_rule ?_)
  refine wpAny_bind (wpAny_field hz rfl (x := .ref TO) rfl ?_)
  refine wpAny_bind (wpAny_setField_rec hz (by simp) fun h₁ hz₁ hs₁ => ?_)
  replace hz₁ : IsZip h₁ z TI TO .ellipsis := hz₁
  refine wpAny_bind ?_
  simp only [List.zipIdx_cons, List.zipIdx_nil, List.forIn_cons, List.forIn_nil]
  refine wpAny_bind (wpAny_bind (wpAny_onRaise ?_))
  show wpAny _ _ (Builtin.SmallTypes.nextOf (.ref i) >>= _) _ _ _
  refine wpAny_bind (wpAny_nextOf_list_end hh (h1.extBut hs₁.extBut D.a3) (hl1.extBut hs₁.extBut D.a7) (by simpa using hx) fun h₂ e hs₂ he => ?_)
  obtain ⟨oe, hoe, hce⟩ := he
  have hz₂ : IsZip h₂ z TI TO .ellipsis := hs₂ _ _ D.a3.symm hz₁
  have hez : e ≠ z := fun x => by subst x; rw [hz₂] at hoe; cases hoe; simp at hce
  refine wpAny_setField_rec hz₂ (by simp) fun h₃ _ hs₃ => ?_
  refine wpAny_bind (wpAny_isInstance (T := "StopIteration") (b := true) ⟨oe, hs₃.extBut _ _ hez hoe, hce⟩ isSubtype_stop ?_)
  exact wpAny_pure (hQ h₃ fun c o c1 _ c3 x => hs₃.extBut _ _ c1 (hs₂ _ _ c3 (hs₁.extBut _ _ c1 x)))

theorem zip1_let {elts : List PySem.Expr} {x1 : Nat} {pos : Pos} {z TI TO i l T : Addr} {k : Nat} {xs : List Value} {Q : Unit → Shared → Prop} (D : Apart1 z TI TO i l) (Z : Zip1 s.heap z TI TO i l (rawInt T) k xs)
    (hQ : ∀ h', Zip1 h' z TI TO i l .none k xs → Heap.SameBut z s.heap h' → Q () { s with heap := h' }) : wpAny (model PP w) A (letOwnedTupleGo (.Tuple elts x1 pos) (.ref z) (.ref T)) Q E s :=
  wpAny_letOwnedTupleGo_zip Z.z fun h' hz' hs' => hQ h' ⟨hz', (hs'.2 _ D.a1).trans Z.ti, let ⟨a, b, e⟩ := Z.to; ⟨a, b, (hs'.2 _ D.a2).trans e⟩, Z.it.extBut hs'.extBut D.a3, Z.ls.extBut hs'.extBut D.a7⟩ hs'

noncomputable abbrev zipG1 (h : Heap) (i : Addr) : Heap := h.push { cls := .type "tuple", data := .seq #[.ref i, .ref i] }
noncomputable abbrev zipG2 (h : Heap) (i : Addr) : Heap := (zipG1 h i).push { cls := .type "tuple", data := .seq #[.none, .none] }
noncomputable abbrev zipG3 (h : Heap) (i : Addr) : Heap := (zipG2 h i).push { cls := .type "zip", data := .fields #[.none, .bool false, .bool false, .ref h.objs.size, .ref (zipG1 h i).objs.size] }

theorem meets_zip_same (i l : Addr) (k : Nat) :
    Meets (Builtin.«zip.__new__» ⟨[.type "zip", .ref i, .ref i], []⟩) (fun _ R s => s.heap.IsListIter i l k ∧ R (.ok (.ret (.ref (zipG2 s.heap i).objs.size))) { s with heap := zipG3 s.heap i }) :=
  .of_wp fun prog w A R s h => by
    obtain ⟨hp, g, d, tk, os⟩ := s; obtain ⟨hl1, h⟩ := h
    have hsub := sub_zip
    have hL1 : Heap.IsListIter (Shared.heap ⟨hp, g, d, tk, os⟩) i l k := hl1
    wp_walk using wpAny_pyIter_listiter hL1
    exact ⟨_, rfl, h⟩

theorem apart_nat (n i l : Nat) (hi : i < n) (hl : l < n) (hne : l ≠ i) : Apart1 (n + 2) n (n + 1) i l := by
  have f : ∀ a b : Nat, a < b ∨ b < a → (a : Addr) ≠ b := fun a b h e => by
    have e' : (a : Nat) = b := e
    omega
  exact ⟨f _ _ (by omega), f _ _ (by omega), f _ _ (by omega), f _ _ (by omega), f _ _ (by omega), f _ _ (by omega), f _ _ (by omega), f _ _ (by omega), hne⟩
theorem call_zip_same {i l : Addr} {k : Nat} {xs : List Value} (hi : s.heap.IsListIter i l k) (hl : s.heap.IsList l xs.toArray)
    (h : ∀ h', Zip1 h' (s.heap.objs.size + 2) s.heap.objs.size (s.heap.objs.size + 1) i l .none k xs → Apart1 (s.heap.objs.size + 2) s.heap.objs.size (s.heap.objs.size + 1) i l → h'.objs.size = s.heap.objs.size + 3 → (∀ c o, s.heap.get? c = some o → h'.get? c = some o) → Q (.ref (s.heap.objs.size + 2)) { s with heap := h' }) :
    wpAny (model PP w) A (call (.type "zip") [.ref i, .ref i]) Q E s := by
  have hil : i < s.heap.objs.size := by obtain ⟨_, e, _⟩ := hi; exact Heap.lt_size e
  have hll : l < s.heap.objs.size := by obtain ⟨_, e, _⟩ := hl; exact Heap.lt_size e
  have hne : l ≠ i := fun q => by
    obtain ⟨o, e, c, _⟩ := hi
    obtain ⟨o', e', c', _⟩ := hl
    rw [q, e] at e'
    cases e'
    rw [c] at c'
    exact absurd c' (by simp)
  have z1 : (zipG1 s.heap i).objs.size = s.heap.objs.size + 1 := Heap.size_push ..
  have z2 : (zipG2 s.heap i).objs.size = s.heap.objs.size + 2 := by rw [Heap.size_push, z1]
  have z3 : (zipG3 s.heap i).objs.size = s.heap.objs.size + 3 := by rw [Heap.size_push, z2]
  have g3 : (zipG3 s.heap i).get? (zipG2 s.heap i).objs.size = some _ := Heap.get?_push_size _ rfl
  have g2 : (zipG3 s.heap i).get? (zipG1 s.heap i).objs.size = some _ := Heap.get?_push_of_some _ (Heap.get?_push_size _ rfl)
  have g1 : (zipG3 s.heap i).get? s.heap.objs.size = some _ := Heap.get?_push_of_some _ (Heap.get?_push_of_some _ (Heap.get?_push_size _ rfl))
  have up : ∀ c o, s.heap.get? c = some o → (zipG3 s.heap i).get? c = some o := fun c o e => Heap.get?_push_of_some _ (Heap.get?_push_of_some _ (Heap.get?_push_of_some _ e))
  refine callType_new PySem.F.called_zip (by decide) (PySem.F.typeCall_zip_2 _ _) (PySem.F.newCall_zip_2 _ _) (fun obj => PySem.F.args_object_init_3 obj _ _) PySem.F.entry_zip_new (meets_zip_same i l k) ⟨hi, ?_⟩
  show _ ∧ _
  rw [z1, z2] at g3
  rw [z1] at g2
  rw [z2]
  refine ⟨⟨_, g3, rfl⟩, h _ ⟨g3, g1, ⟨_, _, g2⟩, hi.at fun o e => up _ o e, hl.at fun o e => up _ o e⟩ ?_ z3 up⟩
  exact apart_nat _ _ _ hil hll hne
end
end Mine
end
section
open PySem PySem.W PyProof.Rows PySem.Calls PySem.Spec Builtin Builtin.ObjectAttr
set_option Elab.async false
set_option maxRecDepth 100000
set_option maxHeartbeats 4000000
set_option pp.maxSteps 6000
namespace Mine
theorem fill30 (w : World) (h₀ : Heap) : (hd.heap_1 w.params).In h₀ → PySem.Challenge.rw_zd0011_01.Holds → True := by k_fill; intros; trivial
theorem slot_rsplit : Slot "re.Pattern" "split" "re.Pattern.split" := .of (owner := "re.Pattern") (n := "split") (by rw [typeLookup_type, builtinLookup_eq_fast]; kernel_rfl) (by decide +kernel) (by decide +kernel) (by decide +kernel)
  (by first | exact .inl (by decide +kernel) | exact .inr (by decide +kernel)) (by rw [isSubtype_type]; kernel_rfl)
theorem slot_rmatch : Slot "re.Pattern" "match" "re.Pattern.match" := .of (owner := "re.Pattern") (n := "match") (by rw [typeLookup_type, builtinLookup_eq_fast]; kernel_rfl) (by decide +kernel) (by decide +kernel) (by decide +kernel)
  (by first | exact .inl (by decide +kernel) | exact .inr (by decide +kernel)) (by rw [isSubtype_type]; kernel_rfl)
theorem type_rsplit : typeOf (.builtin "re.Pattern.split") = pure (.type "method_descriptor") := by show builtinType _ = _; rw [builtinType_eq_fast]; kernel_rfl
theorem type_rmatch : typeOf (.builtin "re.Pattern.match") = pure (.type "method_descriptor") := by show builtinType _ = _; rw [builtinType_eq_fast]; kernel_rfl
theorem entry_rsplit : entryFor table "re.Pattern.split" = some Builtin.«re.Pattern.split» := entryFor_of_tree (by kernel_rfl)
theorem entry_rmatch : entryFor table "re.Pattern.match" = some Builtin.«re.Pattern.match» := entryFor_of_tree (by kernel_rfl)
theorem args_rsplit (a b : Value) : argsOk "re.Pattern.split" ⟨[a, b], []⟩ := by unfold argsOk; kernel_rfl
theorem args_rmatch (a b : Value) : argsOk "re.Pattern.match" ⟨[a, b], []⟩ := by unfold argsOk; kernel_rfl
end Mine
end
section
open PySem PySem.W PyProof.Rows PySem.Calls PySem.Spec Builtin Builtin.ObjectAttr
set_option Elab.async false
set_option maxRecDepth 100000
set_option maxHeartbeats 4000000
set_option pp.maxSteps 6000
namespace Mine
theorem fill31 (w : World) (h₀ : Heap) : (hd.heap_1 w.params).In h₀ → PySem.Challenge.rw_zd0011_01.Holds → True := by k_fill; intros; trivial

noncomputable def comma (p : Str) : Prop := (Txt.item p (-1) == ({ cps := #[44] } : Str)) = true
/-- what a chunk does to the rows and to the line at hand -/
inductive Step (wd : Int) (rows : List Str) (es : List Ent) (e : Ent) : List Str → List Ent → Prop
  | fit : ((elen (es ++ [e]) : Nat) : Int) ≤ wd → Step wd rows es e rows (es ++ [e])
  | push : wd < ((elen (es ++ [e]) : Nat) : Int) → (es = [] ∨ ∃ f0 p0, es = [(f0, p0)] ∧ 1 ≤ p0.length ∧ (Txt.item p0 (-1) == ({ cps := #[44] } : Str)) = false) → Step wd rows es e rows (es ++ [e])
  | cut {es0 : List Ent} {f0 p0 : Str} : wd < ((elen (es ++ [e]) : Nat) : Int) → es = es0 ++ [(f0, p0)] → 1 ≤ p0.length → comma p0 → Step wd rows es e (rows ++ [eStr es]) [e]
inductive Steps (wd : Int) : List Str → List Ent → List Ent → List Str → List Ent → Prop
  | nil {rows es} : Steps wd rows es [] rows es
  | cons {rows es e r rows1 es1 rows2 es2} : Step wd rows es e rows1 es1 → Steps wd rows1 es1 r rows2 es2 → Steps wd rows es (e :: r) rows2 es2

section
variable {w : World} {mg mb : Str → Option Value} {A : Around} {s : Shared} {h₀ h : Heap} {L K : Addr} {m : Str → Option Value} {l la r rest news : List (Addr × Obj)} {Q E : Value → Shared → Prop}

theorem strsAre_len : ∀ {vs : List Value} {ys : List Str}, StrsAre vs ys → vs.length = ys.length
  | _, _, .nil => rfl
  | _, _, .cons _ _ r => by simp [strsAre_len r]

theorem c_chunk {mk md ls x d : Addr} {wd : Int} {lines vs : List Value} {rows rows' : List Str} {es es' : List Ent} {f p : Str} {tf tp : Tok} (hm : Mk mk md ls x d wd lines vs l) (hr : StrsAre lines rows) (hE : Ents s.heap vs es) (hz : ∀ e ∈ es ++ [(f, p)], e.1.length ≤ 1000 ∧ e.2.length ≤ 1000)
    (hes : es.length < 100) (hrl : rows.length < 100) (hst : Step wd rows es (f, p) rows' es') (R : Rm A 14) (W : Wd w mg mb h₀) (G : Lg h₀ L m s.heap (l ++ rest))
    (h : ∀ s' l' lines' vs', Mk mk md ls x d wd lines' vs' l' → StrsAre lines' rows' → Ents s'.heap vs' es' → Bk s h₀ L m l rest s' l' → (∀ b us, s.heap.get? b = some (tupObj us) → Value.ref b ∉ vs → Value.ref b ∉ vs') → Q .none s') : wpAny (model PP w) A (call (.ref 133) [.ref mk, .str f tf, .str p tp]) Q E s := by
  have hvl : vs.length < 100 := by rw [hE.1]; exact hes
  have key : ∀ (s' : Shared) l', Bk s h₀ L m l rest s' l' → Ents s'.heap vs es := fun s' l' B => hE.keep fun _ _ e => B.kp _ _ e (notCore G hm.notup e)
  have fresh : ∀ t : Addr, (∀ b us, s.heap.get? b = some (tupObj us) → b ≠ t) → ∀ b us, s.heap.get? b = some (tupObj us) → Value.ref b ∉ vs → Value.ref b ∉ vs ++ [Value.ref t] := fun t hf b us e hn => by
    simp only [List.mem_append, List.mem_singleton, not_or]
    exact ⟨hn, fun q => hf b us e (by injection q)⟩
  cases hst with
  | fit hf => exact c_chunkA hm hE hz hvl hf R W G fun s' l' t hm' B ht hf' => h s' l' _ _ hm' hr ((key s' l' B).append ht) B (fresh _ hf')
  | push hf hc => exact c_chunkB hm hE hz hvl hf hc R W G fun s' l' t hm' B ht hf' => h s' l' _ _ hm' hr ((key s' l' B).append ht) B (fresh _ hf')
  | cut hf hc hp hq =>
    refine c_chunkC hm hE hz hvl hf hc hp hq (by rw [strsAre_len hr]; exact hrl) R W G fun s' l' t tq hm' B ht hf' => h s' l' _ _ hm' (strsAre_append _ tq hr) ?_ B (fun b us e _ => by simpa using hf' b us e)
    have : Ents s'.heap ([] ++ [.ref t]) ([] ++ [(f, p)]) := Ents.append ⟨rfl, fun i e hi => by simp at hi⟩ ht
    exact this

/-- some entries' objects are changed in place, all else stands -/
theorem Lg.rewrite {ys ys' : List (Addr × Obj)} (G : Lg h₀ L m h (la ++ ys)) {h' : Heap} (k : ∀ b o, b ∉ ys.map (·.1) → h.get? b = some o → h'.get? b = some o) (e : ys'.map (·.1) = ys.map (·.1)) (g : ∀ p ∈ ys', h'.get? p.1 = some p.2) : Lg h₀ L m h' (la ++ ys') := by
  have hin : ∀ a ∈ ys.map (·.1), a ≠ L ∧ h₀.get? a = none := fun a ha => by
    obtain ⟨p, hp, rfl⟩ := List.mem_map.mp ha
    exact (G.nw p (List.mem_append_right _ hp)).2
  have nd := G.nd
  rw [List.map_append, List.nodup_append] at nd
  obtain ⟨oL, es, ep, hL, r⟩ := G.fr.ns
  refine ⟨⟨⟨oL, es, ep, k L oL (fun q => (hin L q).1 rfl) hL, r⟩, fun b o q => k b o (fun z => by rw [(hin b z).2] at q; cases q) (G.fr.keep b o q), G.fr.above⟩, fun p hp => ?_, ?_⟩
  · rcases List.mem_append.mp hp with hp | hp
    · exact ⟨k p.1 _ (fun z => nd.2.2 p.1 (List.mem_map_of_mem hp) p.1 z rfl) (G.nw p (List.mem_append_left _ hp)).1, (G.nw p (List.mem_append_left _ hp)).2⟩
    · exact ⟨g p hp, hin p.1 (e ▸ List.mem_map_of_mem hp)⟩
  · rw [List.map_append, e, List.nodup_append]
    exact nd

theorem Zip1.at {h' : Heap} {z TI TO i pl : Addr} {f0 : Value} {k : Nat} {xs : List Value} (Z : Zip1 h z TI TO i pl f0 k xs) (g : ∀ b o, (b = z ∨ b = TI ∨ b = TO ∨ b = i ∨ b = pl) → h.get? b = some o → h'.get? b = some o) : Zip1 h' z TI TO i pl f0 k xs :=
  ⟨g _ _ (.inl rfl) Z.z, g _ _ (.inr (.inl rfl)) Z.ti, let ⟨a, b, e⟩ := Z.to; ⟨a, b, g _ _ (.inr (.inr (.inl rfl))) e⟩, Z.it.at fun o e => g _ o (.inr (.inr (.inr (.inl rfl)))) e, Z.ls.at fun o e => g _ o (.inr (.inr (.inr (.inr rfl)))) e⟩

/-- one turn of a loop over an iterator that owns its tuple -/
theorem for_turnT {R : Result → Shared → Prop} {target : PySem.Expr} {it : Value} {body orelse : List Stmt} {env : Env}
    (h : wpAny (model PP w) A (pyNext it) (fun r s₁ => match r with
      | none => wpAny (model PP w) A (execs orelse env) (fun f s₃ => R (.ok f) s₃) (notedBy (model PP w) A env fun e s' => R (.error e) s') s₁
      | some v => wpAny (model PP w) A (letOwnedTupleGo target it v) (fun _ s₁' => wpAny (model PP w) A (assign target env v) (fun _ s₂ => wpAny (model PP w) A (execs body env) (fun f s₃ => match f with
          | .next | .cont => codeAny (model PP w) A (.forLoop target it body orelse env) R s₃
          | .brk => R (.ok .next) s₃
          | .ret v => R (.ok (.ret v)) s₃) (notedBy (model PP w) A env fun e s' => R (.error e) s') s₂) (notedBy (model PP w) A env fun e s' => R (.error e) s') s₁') (notedBy (model PP w) A env fun e s' => R (.error e) s') s₁) (notedBy (model PP w) A env fun e s' => R (.error e) s') s) :
    codeAny (model PP w) A (.forLoop target it body orelse env) R s := by
  refine codeAny_of_tree ?_
  show wpAny _ A ((forTurn target it body orelse env).onRaise (fun x => do noteFrame x env; theTreesLotGoes x)) _ _ s
  refine wpAny_noted ?_
  simp only [forTurn]
  refine wpAny_bind (wpAny_standAt (wpAny_bind (wpAny_onRaise (wpAny_mono h (fun r s₁ h₁ => ?_) fun _ _ h' => wpAny_standAt h'))))
  cases r with
  | none => exact wpAny_pure ⟨rfl, codeAny_block h₁⟩
  | some v =>
    refine wpAny_bind (wpAny_mono h₁ (fun _ s₁' h₁' => ?_) fun _ _ h' => h')
    refine wpAny_bind (wpAny_mono h₁' (fun _ s₂ h₂ => wpAny_bind (wpAny_mono h₂ (fun f s₃ h₃ => ?_) fun _ _ h' => h')) fun _ _ h' => h')
    cases f with
    | next => exact wpAny_pure ⟨rfl, h₃⟩
    | cont => exact wpAny_pure ⟨rfl, h₃⟩
    | brk => exact wpAny_pure h₃
    | ret v => exact wpAny_pure h₃
end
end Mine
end
section
open PySem PySem.W PyProof.Rows PySem.Calls PySem.Spec Builtin Builtin.ObjectAttr
set_option Elab.async false
set_option maxRecDepth 100000
set_option maxHeartbeats 4000000
set_option pp.maxSteps 6000
namespace Mine
theorem fill32 (w : World) (h₀ : Heap) : (hd.heap_1 w.params).In h₀ → PySem.Challenge.rw_zd0011_01.Holds → True := by k_fill; intros; trivial
/-- a list's items from the k-th on are pairs of strs -/
noncomputable def PairsAt (xs : List Value) (k : Nat) (ps : List Ent) : Prop := xs.length = k + 2 * ps.length ∧ ∀ (j : Nat) (e : Ent), ps[j]? = some e → ∃ t u, xs[k + 2 * j]? = some (.str e.1 t) ∧ xs[k + 2 * j + 1]? = some (.str e.2 u)
theorem PairsAt.tail {xs : List Value} {k : Nat} {e : Ent} {ps : List Ent} (x : PairsAt xs k (e :: ps)) : PairsAt xs (k + 2) ps := by
  refine ⟨by rw [x.1, List.length_cons]; omega, fun j e' h => ?_⟩
  obtain ⟨t, u, a, b⟩ := x.2 (j + 1) e' (by simpa using h)
  exact ⟨t, u, by rw [← a]; congr 1; omega, by rw [← b]; congr 1; omega⟩
section
variable {w : World} {mg mb : Str → Option Value} {A : Around} {s : Shared} {h₀ h : Heap} {L K : Addr} {m : Str → Option Value} {l la r rest news : List (Addr × Obj)} {Q E : Value → Shared → Prop}

theorem Lg.loseMany {ys : List (Addr × Obj)} (G : Lg h₀ L m h (la ++ ys)) {h' : Heap} (k : ∀ b o, b ∉ ys.map (·.1) → h.get? b = some o → h'.get? b = some o) : Lg h₀ L m h' la := by
  have hin : ∀ a ∈ ys.map (·.1), a ≠ L ∧ h₀.get? a = none := fun a ha => by
    obtain ⟨p, hp, rfl⟩ := List.mem_map.mp ha
    exact (G.nw p (List.mem_append_right _ hp)).2
  have nd := G.nd
  rw [List.map_append, List.nodup_append] at nd
  obtain ⟨oL, es, ep, hL, r⟩ := G.fr.ns
  exact ⟨⟨⟨oL, es, ep, k L oL (fun q => (hin L q).1 rfl) hL, r⟩, fun b o q => k b o (fun z => by rw [(hin b z).2] at q; cases q) (G.fr.keep b o q), G.fr.above⟩,
    fun p hp => ⟨k p.1 _ (fun z => nd.2.2 p.1 (List.mem_map_of_mem hp) p.1 z rfl) (G.nw p (List.mem_append_left _ hp)).1, (G.nw p (List.mem_append_left _ hp)).2⟩, nd.1⟩
noncomputable abbrev zipO (TI TO : Addr) : Obj := { cls := .type "zip", dict := none, data := .fields #[.none, .bool false, .bool false, .ref TI, .ref TO], slots := #[] }
theorem pair_loop {plq : Sem Bool} {cn : Str} {cs : Scope} {a : Addr} {ccd : Value} {cl : List (Str × Addr)} {p1 p2 p3 p4 p5 p6 q1 q2 q3 : Pos} {kq : Nat} {RR : Result → Shared → Prop} {mk md ls x d z TI TO it pl : Addr} {wd : Int} {xs : List Value} {rows' : List Str} {es' : List Ent}
    (hk : cs.kind = .function) (hf : (envX cn cs L a ccd cl).kindOf "fws" = some .local) (hp : (envX cn cs L a ccd cl).kindOf "part" = some .local) (hsf : (envX cn cs L a ccd cl).kindOf "self" = some .local)
    (heq : PySem.eval (.Call (.Attribute (.Name "self" p1) "_append_chunk" p2) [.Name "fws" p3, .Name "part" p4] [] p5) (envX cn cs L a ccd cl) = (do
      let ov ← PySem.eval (.Name "self" p1) (envX cn cs L a ccd cl)
      standAt p2.atName
      let (f, first) ← holding [ov] (getMethod ov "_append_chunk" plq)
      callWith p5 f first (backTo p5 (starEach [.Name "fws" p3, .Name "part" p4] (envX cn cs L a ccd cl))) []))
    (hint : interactive (envX cn cs L a ccd cl) = false) (R : Rm A 15) (W : Wd w mg mb h₀) (D : Apart1 z TI TO it pl) :
    ∀ (ps : List Ent) (s : Shared) (m : Str → Option Value) (l : List (Addr × Obj)) (lines vs : List Value) (rows : List Str) (es : List Ent) (k : Nat) (oTI oP oz oTO oit : Obj),
      Mk mk md ls x d wd lines vs l → StrsAre lines rows → Ents s.heap vs es → (∀ e ∈ es ++ ps, e.1.length ≤ 1000 ∧ e.2.length ≤ 1000) → es.length + ps.length < 100 → rows.length + ps.length < 100 →
      Steps wd rows es ps rows' es' → Lg h₀ L m s.heap (l ++ [(TI, oTI), (pl, oP), (z, oz), (TO, oTO), (it, oit)]) → Zip1 s.heap z TI TO it pl .none k xs → PairsAt xs k ps → m "self" = some (.ref mk) → Value.ref TO ∉ vs → Value.ref TI ∉ vs →
      (∀ (s' : Shared) m' l' lines' vs', Mk mk md ls x d wd lines' vs' l' → StrsAre lines' rows' → Ents s'.heap vs' es' → Lg h₀ L m' s'.heap l' → s'.os = s.os → (AllBare s.gens → AllBare s'.gens) → RR (.ok .next) s') →
      codeAny (model PP w) A (.forLoop (.Tuple [.Name "fws" q1, .Name "part" q2] kq q3) (.ref z) [.Expr (.Call (.Attribute (.Name "self" p1) "_append_chunk" p2) [.Name "fws" p3, .Name "part" p4] [] p5) p6] [] (envX cn cs L a ccd cl)) RR s := by
  intro ps
  induction ps with
  | nil =>
    intro s m l lines vs rows es k oTI oP oz oTO oit hm hr hE hz hl1 hl2 hst G Z hps hself hTO hTI hfin
    cases hst
    refine for_turnT ?_
    refine zip1_end R.h D Z (by rw [List.getElem?_eq_none]; rw [hps.1]; exact Nat.le_refl _) fun h' kk => ?_
    refine wpAny_execs_nil ?_
    refine hfin ⟨h', _, _, _, _⟩ m l lines vs hm hr ?_ ?_ rfl id
    · refine ⟨hE.1, fun i e hi => ?_⟩
      obtain ⟨t, tf, tp, ht, hg⟩ := hE.2 i e hi
      refine ⟨t, tf, tp, ht, kk _ _ ?_ ?_ ?_ hg⟩
      · rintro rfl; have z' : s.heap.get? t = some _ := Z.z; rw [hg] at z'; exact absurd (congrArg Obj.cls (Option.some.inj z')) (by simp)
      · rintro rfl; exact hTO (List.mem_of_getElem? ht)
      · rintro rfl; obtain ⟨o, ho, hc, _⟩ := Z.it; rw [hg] at ho; cases ho; exact absurd hc (by simp)
    · refine Lg.loseMany G fun b o hb e => kk b o ?_ ?_ ?_ e
      · rintro rfl; exact hb (by simp)
      · rintro rfl; exact hb (by simp)
      · rintro rfl; exact hb (by simp)
  | cons e ps ih =>
    intro s m l lines vs rows es k oTI oP oz oTO oit hm hr hE hz hl1 hl2 hst G Z hps hself hTO hTI hfin
    cases hst with
    | cons st1 st2 =>
    rename_i rows1 es1
    obtain ⟨f, p⟩ := e
    obtain ⟨tf, tp, hx, hy⟩ := hps.2 0 (f, p) rfl
    refine for_turnT ?_
    refine zip1_item D Z (by simpa using hx) (by simpa using hy) fun h1 Z1 T1 sz1 kk1 => ?_
    refine zip1_let D Z1 fun h2 Z2 hs2 => ?_
    have hzs : s.heap.objs.size ≠ z := fun q => Nat.lt_irrefl _ (q ▸ Heap.lt_size (h := s.heap) (a := z) Z.z)
    have T2 : h2.get? s.heap.objs.size = some (tupObj [.str f tf, .str p tp]) := (hs2.2 _ hzs).trans T1
    refine wpAny_assign_Tuple (s := ⟨h2, _, _, _, _⟩) R.h ⟨_, T2, rfl, _, rfl⟩ rfl rfl fun h3 hx3 => ?_
    show wpAny _ _ (do holding [.str p tp] (assign _ _ (.str f tf)); do holding [] (assign _ _ (.str p tp)); pure ()) _ _ _
    have k3 : ∀ b o, h2.get? b = some o → h3.get? b = some o := fun b o e => hx3 b o (Nat.ne_of_lt (Heap.lt_size e)) e
    have Z3 := Z2.at fun b o _ e => k3 b o e
    have up3 : ∀ b o, b ≠ z → b ≠ TO → b ≠ it → s.heap.get? b = some o → h3.get? b = some o := fun b o c1 c2 c3 e => k3 b o ((hs2.2 b c1).trans (kk1 b o c1 c2 c3 e))
    obtain ⟨toa, tob, hto⟩ := Z3.to
    obtain ⟨oi, hoi, _⟩ := Z3.it
    have G0 : Lg h₀ L m s.heap ((l ++ [(TI, oTI), (pl, oP)]) ++ [(z, oz), (TO, oTO), (it, oit)]) := by rw [List.append_assoc]; exact G
    have G3 : Lg h₀ L m h3 ((l ++ [(TI, oTI), (pl, oP)]) ++ [(z, zipO TI TO), (TO, { cls := .type "tuple", data := .seq #[toa, tob] }), (it, oi)]) := Lg.rewrite G0 (fun b o hb e => up3 b o (fun q => hb (by simp [q])) (fun q => hb (by simp [q])) (fun q => hb (by simp [q])) e) rfl (by
      intro q hq
      simp only [List.mem_cons, List.not_mem_nil, or_false] at hq
      rcases hq with rfl | rfl | rfl
      · exact Z3.z
      · exact hto
      · exact hoi)
    rw [List.append_assoc] at G3
    refine wpAny_bind (wpAny_holding (wpAny_assign_Name (storeL (s := ⟨h3, _, _, _, _⟩) G3 (fun h4 G4 kt4 ko4 => ?_) hk hf)))
    refine wpAny_bind (wpAny_holding (wpAny_assign_Name (storeL (s := ⟨h4, _, _, _, _⟩) G4 (fun h5 G5 kt5 ko5 => wpAny_pure ?_) hk hp)))
    have hs5 : (fun y => if y = Str.ofString "part" then some (Value.str p tp) else if y = Str.ofString "fws" then some (Value.str f tf) else m y) "self" = some (.ref mk) := by
      show (if _ then _ else if _ then _ else m _) = _
      rw [if_neg (by decide), if_neg (by decide)]; exact hself
    have hm0 := hm
    obtain ⟨la, n, a1, a2, a3, a4, a5, a6, k1, k2, k3', k4, k5, k6, tw, ts, tl, tc, kk, ha, hl, rfl⟩ := hm
    have Gm : ∀ (i : Nat) p, [(ls, listO lines n), (mk, mkObj md), (md, dictOf (mkE a1 a2 a3 a4 a5 a6 k1 k2 k3' k4 k5 k6 wd tw ts tl tc ls x) kk)][i]? = some p → h5.get? p.1 = some p.2 := fun i p hp =>
      (G5.nw p (List.mem_append_left _ (List.mem_append_right _ (List.mem_of_getElem? hp)))).1
    have Im : PySem.W.InstAt h5 mk (mkObj md) 136 (some (dictOf (mkE a1 a2 a3 a4 a5 a6 k1 k2 k3' k4 k5 k6 wd tw ts tl tc ls x) kk)) := ⟨Gm 1 _ rfl, rfl, rfl, Gm 2 _ rfl⟩
    refine wpAny_execs_cons (wpAny_Expr_any (MethodCall_ ?_ heq) hint)
    refine nameX_L (s := ⟨h5, _, _, _, _⟩) G5.fr hs5 ?_ hk hsf
    refine getm_any (s := ⟨h5, _, _, _, _⟩) (W.X.keeps G5.fr.keep) Im (by k_is) (by decide +kernel) (by k_is) (by k_is) (by k_is) (by rfl) (by rfl) ?_
    refine callWith_K (s := ⟨h5, _, _, _, _⟩) (W.X.keeps G5.fr.keep) (by k_is) (spliced_more (nameX_L (s := ⟨h5, _, _, _, _⟩) (v := .str f tf) G5.fr (by rfl) (spliced_more (nameX_L (s := ⟨h5, _, _, _, _⟩) (v := .str p tp) G5.fr (by rfl) (spliced_none ?_) hk hp)) hk hf))
    refine ⟨W.X.keeps G5.fr.keep, ?_⟩
    have tupne : ∀ b us, Value.ref b ∈ vs → s.heap.get? b = some (tupObj us) → h5.get? b = some (tupObj us) := fun b us hb e => by
      refine kt5 _ _ (kt4 _ _ (up3 b _ ?_ ?_ ?_ e))
      · rintro rfl; have z' : s.heap.get? b = some _ := Z.z; rw [e] at z'; exact absurd (congrArg Obj.cls (Option.some.inj z')) (by simp)
      · rintro rfl; exact hTO hb
      · rintro rfl; obtain ⟨o, ho, hc, _⟩ := Z.it; rw [e] at ho; cases ho; exact absurd hc (by simp)
    have hE5 : Ents h5 vs es := ⟨hE.1, fun i e hi => by
      obtain ⟨t, tf', tp', ht, hg⟩ := hE.2 i e hi
      exact ⟨t, tf', tp', ht, tupne _ _ (List.mem_of_getElem? ht) hg⟩⟩
    refine c_chunk (s := ⟨h5, _, _, _, _⟩) hm0 hr hE5 (fun e he => hz e (by
      simp only [List.mem_append, List.mem_cons, List.not_mem_nil, or_false] at he ⊢
      rcases he with he | he
      · exact .inl he
      · exact .inr (.inl he))) (by simp at hl1; omega) (by simp at hl2; omega) st1 (R.le (by decide)) W G5 fun s6 l6 lines6 vs6 hm6 hr6 hE6 B6 fr6 => ?_
    have z1 : ∀ e ∈ es1, e ∈ es ++ [(f, p)] := by
      cases st1 with
      | fit _ => exact fun e he => he
      | push _ _ => exact fun e he => he
      | cut _ _ _ _ => exact fun e he => List.mem_append_right _ he
    have z2 : es1.length ≤ es.length + 1 := by
      cases st1 with
      | fit _ => simp
      | push _ _ => simp
      | cut _ _ _ _ => simp
    have z3 : rows1.length ≤ rows.length + 1 := by
      cases st1 with
      | fit _ => simp
      | push _ _ => simp
      | cut _ _ _ _ => simp
    have G6 := B6.lg
    have same : ∀ (j : Nat) p, [(TI, oTI), (pl, oP), (z, zipO TI TO), (TO, ({ cls := .type "tuple", data := .seq #[toa, tob] } : Obj)), (it, oi)][j]? = some p → ∀ o, h3.get? p.1 = some o → s6.heap.get? p.1 = some o := fun j q hq o e => by
      have e3 := G3.getR hq
      have e6 := G6.getR hq
      rw [e] at e3
      cases e3
      exact e6
    have Z6 : Zip1 s6.heap z TI TO it pl .none (k + 2) xs := Z3.at fun b o hb e => by
      rcases hb with rfl | rfl | rfl | rfl | rfl
      · exact same 2 _ rfl o e
      · exact same 0 _ rfl o e
      · exact same 3 _ rfl o e
      · exact same 4 _ rfl o e
      · exact same 1 _ rfl o e
    have hTI5 : h5.get? TI = some (tupObj [.ref it, .ref it]) := by
      have e3 := G3.getR (i := 0) rfl
      have e5 := G5.getR (i := 0) rfl
      have := Z3.ti
      unfold IsPair at this
      rw [e3] at this
      rw [e5, this]
    dsimp only
    refine wpAny_execs_nil ?_
    dsimp only
    refine ih s6 _ l6 lines6 vs6 rows1 es1 (k + 2) oTI oP _ _ oi hm6 hr6 hE6 ?_ (by simp at hl1; omega) (by simp at hl2; omega) st2 G6 Z6 hps.tail hs5 ?_ ?_ ?_
    · intro e he
      refine hz e ?_
      rcases List.mem_append.mp he with he | he
      · have := z1 e he
        simp only [List.mem_append, List.mem_cons, List.not_mem_nil, or_false] at this ⊢
        rcases this with q | q
        · exact .inl q
        · exact .inr (.inl q)
      · simp only [List.mem_append, List.mem_cons]
        exact .inr (.inr he)
    · exact fr6 TO [toa, tob] (G5.getR (i := 3) rfl) hTO
    · exact fr6 TI [.ref it, .ref it] hTI5 hTI
    · intro s' m' l' lines' vs' a1 a2 a3 a4 a5 a6
      exact hfin s' m' l' lines' vs' a1 a2 a3 a4 (a5.trans B6.os) fun q => a6 (B6.gn q)
end
end Mine
end
section
open PySem PySem.W PyProof.Rows PySem.Calls PySem.Spec Builtin Builtin.ObjectAttr
set_option Elab.async false
set_option maxRecDepth 100000
set_option maxHeartbeats 4000000
set_option pp.maxSteps 30000
namespace Mine
theorem fill33 (w : World) (h₀ : Heap) : (hd.heap_1 w.params).In h₀ → PySem.Challenge.rw_zd0011_01.Holds → True := by k_fill; intros; trivial
/-- what the pattern splits a text into -/
noncomputable def SplitOk (w : World) (t : Str) (ps : List Str) : Prop := ∀ (A : Around) (Q : PySem.Fin → Shared → Prop) (E : Value → Shared → Prop) (s : Shared) (tk : Tok), (hd.heap_1 w.params).In s.heap →
  (∀ vs tk', StrsAre vs ps → Q (.done (.ret (.ref s.heap.objs.size))) { s with heap := s.heap.push (listO vs 0), toks := tk' }) → wpAny (model PP w) A (Builtin.«re.Pattern.split» ⟨[.ref 63, .str t tk], []⟩) Q E s
theorem plainAttrs_re : PlainAttrs "re.Pattern" :=
  ⟨⟨"object.__getattribute__", by rw [typeLookup_type, builtinLookup_eq_fast]; kernel_rfl, by decide +kernel⟩, by rw [typeLookup_type, builtinLookup_eq_fast]; kernel_rfl⟩
section
variable {w : World} {mg mb : Str → Option Value} {A : Around} {s : Shared} {h₀ h : Heap} {L K : Addr} {m : Str → Option Value} {l la r rest news : List (Addr × Obj)} {Q E : Value → Shared → Prop}

theorem call_split {t : Str} {ps : List Str} {tk : Tok} (hs : SplitOk w t ps) (X : (hd.heap_1 w.params).In s.heap) (h : ∀ vs tk', StrsAre vs ps → Q (.ref s.heap.objs.size) { s with heap := s.heap.push (listO vs 0), toks := tk' }) :
    wpAny (model PP w) A (call (.builtin "re.Pattern.split") [.ref 63, .str t tk]) Q E s := by
  have hT : s.TypeIs (.ref 63) "re.Pattern" := ⟨_, X 63 _ (by k_is), rfl⟩
  refine wpAny_call_entry slot_rsplit hT entry_rsplit ?_ (args_rsplit _ _)
  exact hs _ _ _ s tk X fun vs tk' hv => ⟨_, rfl, h vs tk' hv⟩

/-- a slice of a list is written: the ledger behind it -/
theorem setSlice_list {x sl y : Addr} {vs us : List Value} {n i : Nat} {vl vu : Value} {lo hi : Option Int} {a b : Nat} {Q : Unit → Shared → Prop} (G : Lg h₀ L m s.heap (la ++ r)) (hi1 : r[i]? = some (x, listO vs n)) (hs : s.heap.IsSliceOf sl vl vu .none)
    (pl : IsPart vl lo) (pu : IsPart vu hi) (hy : s.heap.IsList y us.toArray) (hxy : x ≠ y) (e : sliceBounds lo hi none vs.length = ((a : Int), (b : Int), 1)) (hab : a ≤ b) (hz : vs.length + us.length ≤ 1000)
    (h : ∀ h' n', Lg h₀ L m h' (la ++ r.set i (x, listO (vs.take a ++ us ++ vs.drop b) n')) → Heap.SameBut x s.heap h' → Q () { s with heap := h' }) : wpAny (model PP w) A (setItem (.ref x) (.ref sl) (.ref y)) Q E s := by
  have hx := G.getR hi1
  have hT : s.TypeIs (.ref x) "list" := ⟨_, hx, rfl⟩
  unfold setItem
  refine wpAny_holding (wpAny_bind (wpAny_sequenceKey hT (by decide) ?_))
  refine wpAny_bind (wpAny_callSpecial?_slot (name := Str.ofString "__setitem__") hT slot_list_setitem (wpAny_call_entry slot_list_setitem hT entry_list_setitem ?_ (args_list_setitem _ _ _)))
  refine setBody (ox := listO vs n) hx rfl hs pl pu hy hxy e hab hz ⟨_, rfl, wpAny_pure ?_⟩
  obtain ⟨n', q⟩ := mapSeq_list vs n (fun xs => xs.extract 0 a ++ us.toArray ++ xs.extract b)
  rw [cutJoin] at q
  have := G.update (app_get (la := la) hi1) (f := Obj.mapSeq fun xs => xs.extract 0 a ++ us.toArray ++ xs.extract b) (by rw [q]; rfl)
  rw [q, app_set] at this
  exact h _ n' this (Heap.SameBut.update ..)

theorem iter_list {a : Addr} {items : Array Value} (hl : s.heap.IsList a items) (h : Q (.ref s.heap.objs.size) { s with heap := s.heap.push (iterO a) }) : wpAny (model PP w) A (call (.builtin "iter") [.ref a]) Q E s := by
  refine Calls.call_function_entry (by decide +kernel) (by decide +kernel) kdk_entry_iter (kdk_args_iter _) ?_
  unfold Builtin.«iter»
  refine wpAny_bind (m := someArgs "iter" 1 2 _) (wpAny_of_eq (a := [Value.ref a]) (by first | rfl | kernel_rfl) ?_)
  show wpAny _ _ (pyIter (.ref a) >>= _) _ _ _
  exact wpAny_bind (wpAny_pyIter_list hl (wpAny_pure ⟨_, rfl, h⟩))

theorem star_lst {a : Addr} {ws : List Value} {n : Nat} {Q : List Value → Shared → Prop} (ha : s.heap.get? a = some (listO ws n)) (hz : ws.length ≤ 100) (h : ∀ h', (∀ b o, s.heap.get? b = some o → h'.get? b = some o) → Q ws { s with heap := h' }) : StarOf (model PP w) A E (.ref a) Q s := by
  have hT' : s.TypeIs (.ref a) "list" := ⟨_, ha, rfl⟩
  have z : wpAny (model PP w) A (collect (.ref a)) Q E s := by
    refine wpAny_collect_seq a (.inl rfl) ha rfl (items := ws.toArray) rfl (fun h' hk => h h' hk) (by rw [List.size_toArray, sizeLine_eq]; omega)
  unfold StarOf notIterableAtAll
  exact wpAny_bind (wpAny_specialOf hT' PySem.F.slot_list_iter.lookup (wpAny_pure ⟨rfl, z⟩))

theorem callWith_ST {pos p : Pos} {env : Env} {T : String} {e : PySem.Expr}
    (h : wpAny (model PP w) A (PySem.eval e env) (fun v s₁ => StarOf (model PP w) A E v (fun vs s₂ => wpAny (model PP w) A (call (.type T) vs) Q E s₂) s₁) E s)
    (he : starEach [.Starred e p] env = [(true, PySem.eval e env)] := by rfl) : wpAny (model PP w) A (callWith pos (.type T) [] (backTo pos (starEach [.Starred e p] env)) []) Q E s := by
  rw [he]
  refine ks_call (P := fun _ => True) rfl (fun _ _ => ⟨.machine, .inr (.inl rfl), .now⟩) (ks_lone (wpAny_mono h (fun v s₁ h₁ => ?_) fun _ _ x => x))
  unfold StarOf at h₁ ⊢
  exact wpAny_mono h₁ (fun b s₂ h₂ => ⟨h₂.1, wpAny_mono h₂.2 (fun vs s₃ h₃ => ⟨trivial, h₃⟩) fun _ _ x => x⟩) fun _ _ x => x

theorem Lg.consNew {o : Obj} {h' : Heap} (G : Lg h₀ L m h news) (F : Fr h₀ L h' m) (N : News h₀ L h' ((h.objs.size, o) :: news)) : Lg h₀ L m h' ((h.objs.size, o) :: news) := ⟨F, N, by
  rw [List.map_cons, List.nodup_cons]
  refine ⟨fun hm => ?_, G.nd⟩
  obtain ⟨p, hp, e⟩ := List.mem_map.mp hm
  have := G.lt hp
  rw [e] at this
  exact Nat.lt_irrefl _ this⟩
/-- new objects above, all else standing -/
theorem Lg.more {ys : List (Addr × Obj)} {h' : Heap} (G : Lg h₀ L m h news) (k : ∀ b o, h.get? b = some o → h'.get? b = some o) (g : ∀ p ∈ ys, h.objs.size ≤ p.1 ∧ h'.get? p.1 = some p.2) (nd : (ys.map (·.1)).Nodup) : Lg h₀ L m h' (news ++ ys) := by
  have hL : L < h.objs.size := G.fr.ns.lt
  have hab := G.fr.above
  refine ⟨G.fr.keeps k, fun p hp => ?_, ?_⟩
  · rcases List.mem_append.mp hp with hp | hp
    · exact ⟨k _ _ (G.nw p hp).1, (G.nw p hp).2⟩
    · obtain ⟨a, b⟩ := g p hp
      exact ⟨b, Nat.ne_of_gt (Nat.lt_of_lt_of_le hL a), Heap.get?_none_of_le (Nat.le_trans hab (Nat.le_trans (Nat.le_of_lt hL) a))⟩
  · rw [List.map_append, List.nodup_append]
    refine ⟨G.nd, nd, fun a ha b hb e => ?_⟩
    obtain ⟨p, hp, rfl⟩ := List.mem_map.mp ha
    obtain ⟨q, hq, rfl⟩ := List.mem_map.mp hb
    have h1 := G.lt hp
    have h2 := (g q hq).1
    rw [e] at h1
    exact Nat.lt_irrefl _ (Nat.lt_of_lt_of_le h1 h2)

theorem strsAre_at : ∀ {vs : List Value} {ys : List Str}, StrsAre vs ys → ∀ (i : Nat) (y : Str), ys[i]? = some y → ∃ t, vs[i]? = some (.str y t)
  | _, _, .nil, i, y, h => by simp at h
  | _, _, .cons z u r, 0, y, h => by simp at h; subst h; exact ⟨u, rfl⟩
  | _, _, .cons z u r, i + 1, y, h => strsAre_at r i y (by simpa using h)
noncomputable abbrev flat2 (prs : List Ent) : List Str := prs.flatMap fun e => [e.1, e.2]
theorem flat2_len : ∀ prs : List Ent, (flat2 prs).length = 2 * prs.length
  | [] => rfl
  | e :: r => by
    have := flat2_len r
    simp [flat2] at this ⊢
    omega
theorem flat2_at : ∀ (prs : List Ent) (j : Nat) (e : Ent), prs[j]? = some e → (flat2 prs)[2 * j]? = some e.1 ∧ (flat2 prs)[2 * j + 1]? = some e.2
  | [], j, e, h => by simp at h
  | e' :: r, 0, e, h => by simp at h; subst h; exact ⟨rfl, rfl⟩
  | e' :: r, j + 1, e, h => by
    have := flat2_at r j e (by simpa using h)
    show (e'.1 :: e'.2 :: flat2 r)[2 * (j + 1)]? = _ ∧ (e'.1 :: e'.2 :: flat2 r)[2 * (j + 1) + 1]? = _
    exact this
theorem pairsAt_of {vs : List Value} {prs : List Ent} (h : StrsAre vs (flat2 prs)) : PairsAt vs 0 prs := by
  refine ⟨by rw [strsAre_len h, flat2_len, Nat.zero_add], fun j e hj => ?_⟩
  obtain ⟨a, b⟩ := flat2_at prs j e hj
  obtain ⟨t, ht⟩ := strsAre_at h _ _ a
  obtain ⟨u, hu⟩ := strsAre_at h _ _ b
  exact ⟨t, u, by rw [Nat.zero_add]; exact ht, by rw [Nat.zero_add]; exact hu⟩

theorem c_asplit {mk md ls x d : Addr} {wd : Int} {t q0 : Str} {tf tt tsp : Tok} {ps : List Str} {prs : List Ent} {rows' : List Str} {es' : List Ent} (hm : Mk mk md ls x d wd [] [] l) (hs : SplitOk w t (q0 :: ps)) (hq : 1 ≤ q0.length) (hpr : Str.ofString "" :: q0 :: ps = flat2 prs) (hz : ∀ e ∈ prs, e.1.length ≤ 1000 ∧ e.2.length ≤ 1000) (hpl : prs.length < 100) (hst : Steps wd [] [] prs rows' es')
    (R : Rm A 17) (W : Wd w mg mb h₀) (G : Lg h₀ L m s.heap (l ++ rest)) (htl : t.length ≤ 1000) (hql : q0.length ≤ 1000)
    (h : ∀ s' l' lines' vs', Mk mk md ls x d wd lines' vs' l' → StrsAre lines' rows' → Ents s'.heap vs' es' → Bk s h₀ L m l rest s' l' → Q .none s') :
    wpAny (model PP w) A (call (.ref 126) [.ref mk, .str (Str.ofString "") tf, .str t tt, .str (Str.ofString ",") tsp]) Q E s := by
  obtain ⟨hh, gg, dd, tk0, oo⟩ := s
  dsimp only at G h
  refine call_def (cl := []) (binds := [("self", .ref mk), ("fws", .str (Str.ofString "") tf), ("string", .str t tt), ("splitchars", .str (Str.ofString ",") tsp)]) W G (by k_is) rfl (by k_is) R.room (.of_eq rfl) (by rfl) ?_ (by decide)
  intro g L' h₁ W' kp G' back
  refine wpAny_execs_cons ?_
  refine wpAny_Assign_Name ?_
  refine MethodCall_ ?_
  refine nameX_K G'.fr W'.X W'.T (by k_is) ?_
  have X1 := W'.X.keeps G'.fr.keep
  refine getMethod_builtin (T := "re.Pattern") ⟨_, X1 63 _ (by k_is), rfl⟩ plainAttrs_re slot_rsplit type_rsplit (fun a e => by cases e; exact ⟨_, X1 63 _ (by k_is), rfl⟩) ?_
  refine callWith_method1 ?_
  refine spliced_more (wpAny_BinOp (nameX_L G'.fr rfl (nameX_L G'.fr rfl ?_)))
  refine SBL.add (fun t' k' _ => ?_) (by show (Str.ofString "").length + t.length ≤ sizeLine; rw [sizeLine_eq]; have : (Str.ofString "").length = 0 := by decide
                                         omega)
  have hadd : Str.ofString "" ++ t = t := by
    obtain ⟨c⟩ := t
    show Str.mk (#[] ++ c) = _
    simp
  rw [hadd]
  refine spliced_none ?_
  refine call_split (s := ⟨h₁, _, _, _, _⟩) hs X1 fun vs tk' hv => ?_
  have G2 : Lg g L' _ _ (l ++ [(h₁.objs.size, listO vs 0)]) := G'.app.allocR (listO vs 0)
  refine storeL (s := ⟨_, _, _, _, _⟩) G2 fun h3 G3 kt3 ko3 => ?_
  dsimp only
  refine wpAny_execs_cons ?_
  refine wpAny_If ?_
  refine isTrue_plain ?_
  refine Subscript_ ?_
  refine nameX_L (s := ⟨h3, _, _, _, _⟩) G3.fr rfl ?_
  refine wpAny_Constant_int ?_
  have hvl := strsAre_len hv
  have hpl2 := congrArg List.length hpr
  rw [flat2_len] at hpl2
  simp only [List.length_cons] at hpl2
  cases hv with
  | cons _ u0 hv' =>
  rename_i vs'
  simp only [List.length_cons] at hvl
  have hl3 : h3.IsList h₁.objs.size (Value.str q0 u0 :: vs').toArray := ⟨_, G3.getR (i := 0) rfl, rfl, _, rfl⟩
  refine subscriptTail_builtin (s := ⟨h3, _, _, _, _⟩) (T := "list") ⟨_, G3.getR (i := 0) rfl, rfl⟩ list_getitem_lookup (wpAny_getItem_list (s := ⟨h3, _, _, _, _⟩) hl3 (by decide) (by decide) (x := .str q0 u0) (by simp) ?_)
  refine KXt.truthy_pos hq hql (by decide) fun k4 => ?_
  rw [if_pos rfl]
  refine wpAny_execs_cons ?_
  refine wpAny_Assign_Subscript ?_
  refine List_ ?_
  refine spliced_more (Calls.Constant_str (spliced_none ?_))
  refine wpAny_newObj_type ?_ (by show 1 ≤ sizeLine; rw [sizeLine_eq]; omega)
  have hh4 := h3.objs.size
  refine nameX_L (s := ⟨_, _, _, _, _⟩) (G3.allocR (listO [.str (Str.ofString "") k4] 0)).fr rfl ?_
  refine wpAny_Slice ?_
  rw [evalPart_none, evalPart_some]
  refine wpAny_pure ?_
  refine wpAny_Constant_int ?_
  refine wpAny_pure ?_
  have G5 := (G3.allocR (listO [.str (Str.ofString "") k4] 0)).allocR { cls := .type "slice", data := .fields #[.none, .int 0 (k4 + 1), .none] }
  refine setSlice_list (us := [.str (Str.ofString "") k4]) G5 (i := 0) rfl ⟨_, G5.getR (i := 2) rfl, rfl, rfl⟩ .none (.int 0 _) ⟨_, G5.getR (i := 1) rfl, rfl, _, rfl⟩ (by
      have := Heap.lt_size (G3.getR (i := 0) rfl)
      exact Nat.ne_of_lt this) (bounds_upto0 _) (Nat.le_refl _) (by simp only [List.length_cons, List.length_nil]; omega) fun h6 n6 G6 hs6 => ?_
  dsimp only
  refine wpAny_execs_nil ?_
  dsimp only
  refine wpAny_execs_cons ?_
  refine wpAny_For ?_
  refine Call_ ?_
  refine nameX_B (s := ⟨h6, _, _, _, _⟩) G6.fr W'.X W'.T (by k_is) (by boot_by_name) (by decide) ?_
  refine callWith_ST ?_
  refine wpAny_BinOp (List_ (spliced_more (Call_ (nameX_B (s := ⟨h6, _, _, _, _⟩) G6.fr W'.X W'.T (by k_is) (by boot_by_name) (by decide) ?_))))
  refine PyProof.Rows.callWith_builtin1 (spliced_more (nameX_L (s := ⟨h6, _, _, _, _⟩) G6.fr rfl (spliced_none ?_)))
  refine iter_list (s := ⟨h6, _, _, _, _⟩) ⟨_, G6.getR (i := 0) rfl, rfl, _, rfl⟩ ?_
  refine spliced_none ?_
  refine wpAny_newObj_type ?_ (by show 1 ≤ sizeLine; rw [sizeLine_eq]; omega)
  have G7 := (G6.allocR (iterO h₁.objs.size)).allocR (listO [.ref h6.objs.size] 0)
  refine wpAny_Constant_int ?_
  refine mul_list (s := ⟨_, _, _, _, _⟩) G7.fr G7.nw (items := #[.ref h6.objs.size]) (k := 0) (G7.getR (i := 4) rfl) (by decide) (by decide) (by show 1 * 2 ≤ 2 ^ 24; decide) fun h8 F8 N8 => ?_
  dsimp only at F8 N8 G7
  have e8 : h8.get? _ = some (listO [.ref h6.objs.size, .ref h6.objs.size] 0) := (N8 _ (List.mem_cons_self)).1
  refine star_lst e8 (by simp) fun h9 k9 => ?_
  have G8 := G7.consNew F8 N8
  have G9 := G8.ext k9
  have ei : h9.IsListIter h6.objs.size h₁.objs.size 0 := ⟨_, (G9.nw (h6.objs.size, iterO h₁.objs.size) (by simp)).1, rfl, rfl⟩
  have el0 : h9.get? h₁.objs.size = some (listO (Value.str (Str.ofString "") k4 :: Value.str q0 u0 :: vs') n6) := (G9.nw (h₁.objs.size, listO (Value.str (Str.ofString "") k4 :: Value.str q0 u0 :: vs') n6) (by simp)).1
  have el : h9.IsList h₁.objs.size (Value.str (Str.ofString "") k4 :: Value.str q0 u0 :: vs').toArray := ⟨_, el0, rfl, _, rfl⟩
  refine call_zip_same (s := ⟨h9, _, _, _, _⟩) ei el fun h10 Z10 D10 sz10 k10 => ?_
  dsimp only at Z10 D10 sz10 k10
  refine wpAny_pyIter_zip (s := ⟨h10, _, _, _, _⟩) Z10.z ?_
  dsimp only
  obtain ⟨za, zb, zto⟩ := Z10.to
  have G9' : Lg g L' _ h9 (l ++ [(h₁.objs.size, listO (Value.str (Str.ofString "") k4 :: Value.str q0 u0 :: vs') n6), (h6.objs.size, iterO h₁.objs.size)]) := G9.drop (by
    refine .cons _ (List.Sublist.append (.refl _) ?_)
    exact .cons_cons _ (.cons _ (.cons _ (.cons_cons _ (.cons _ (.refl _))))))
  have G10 := G9'.more (ys := [(h9.objs.size, { cls := .type "tuple", data := .seq #[.ref h6.objs.size, .ref h6.objs.size] }), (h9.objs.size + 2, zipO h9.objs.size (h9.objs.size + 1)), (h9.objs.size + 1, { cls := .type "tuple", data := .seq #[za, zb] })]) k10 (by
    intro p hp
    simp only [List.mem_cons, List.not_mem_nil, or_false] at hp
    rcases hp with rfl | rfl | rfl
    · exact ⟨Nat.le_refl _, Z10.ti⟩
    · exact ⟨Nat.le_add_right _ _, Z10.z⟩
    · exact ⟨Nat.le_add_right _ _, zto⟩) (by
    simp only [List.map_cons, List.map_nil, List.nodup_cons, List.mem_cons, List.not_mem_nil, or_false, not_or, List.nodup_nil, not_false_eq_true, and_true]
    exact ⟨⟨Ne.symm D10.a1 |> Ne.symm, D10.a4⟩, Ne.symm D10.a2⟩)
  rw [List.append_assoc] at G10
  have G11 := G10.perm (List.Perm.append_left l (List.Perm.trans (List.Perm.swap _ _ _) (List.Perm.cons _ (List.perm_append_singleton _ [(h9.objs.size, _), (h9.objs.size + 2, _), (h9.objs.size + 1, _)]))))
  refine pair_loop (plq := ?plq) rfl rfl rfl rfl ?heq ?hint (R.deep.le (by decide)) W' D10 prs _ _ l [] [] [] [] 0 _ _ _ _ _ hm .nil ⟨rfl, fun i e hi => by simp at hi⟩ (by simpa using hz) (by simpa using hpl) (by simpa using hpl) hst G11 Z10 ?_ (by rfl) (by simp) (by simp) ?_
  case heq => rfl
  case hint => rfl
  · refine pairsAt_of ?_
    rw [← hpr]
    exact .cons _ _ (.cons _ _ hv')
  · intro s' m' l' lines' vs'' hm' hr' hE' G' os' gn'
    dsimp only
    refine wpAny_execs_nil ?_
    exact h _ _ _ _ hm' hr' hE' (back _ _ _ G' os' gn')
end
end Mine
end
section
open PySem PySem.Sre
set_option Elab.async false
set_option maxRecDepth 100000
set_option maxHeartbeats 4000000
set_option pp.maxSteps 6000
namespace Mine

noncomputable def stepN : Nat → M → M
  | 0, m => m
  | n + 1, m => stepN n m.step
theorem stepN_add : ∀ (a b : Nat) (m : M), stepN (a + b) m = stepN b (stepN a m)
  | 0, b, m => by rw [Nat.zero_add]; rfl
  | a + 1, b, m => by rw [Nat.succ_add]; exact stepN_add a b m.step
theorem step_done {m : M} (h : m.outcome.isSome = true) : m.step = m := by unfold M.step; rw [if_pos h]
theorem stepN_done : ∀ (n : Nat) {m : M}, m.outcome.isSome = true → stepN n m = m
  | 0, _, _ => rfl
  | n + 1, m, h => by show stepN n m.step = m; rw [step_done h]; exact stepN_done n h
theorem runFor_eq : ∀ (n : Nat) (m : M), m.runFor n = stepN n m
  | 0, _ => rfl
  | n + 1, m => by
    unfold M.runFor
    split
    · rename_i h; exact (stepN_done (n + 1) h).symm
    · exact runFor_eq n m.step

/-- in at most n steps -/
noncomputable def Goes (n : Nat) (m m' : M) : Prop := ∃ k, k ≤ n ∧ stepN k m = m'
theorem Goes.refl {m : M} : Goes 0 m m := ⟨0, Nat.le_refl _, rfl⟩
theorem Goes.trans {a b : Nat} {m m' m'' : M} (x : Goes a m m') (y : Goes b m' m'') : Goes (a + b) m m'' := by
  obtain ⟨k, hk, rfl⟩ := x
  obtain ⟨j, hj, rfl⟩ := y
  exact ⟨k + j, by omega, stepN_add _ _ _⟩
theorem Goes.one {m m' : M} (h : m.step = m') : Goes 1 m m' := ⟨1, Nat.le_refl _, h⟩
theorem Goes.le {a b : Nat} {m m' : M} (x : Goes a m m') (h : a ≤ b) : Goes b m m' := let ⟨k, hk, e⟩ := x; ⟨k, Nat.le_trans hk h, e⟩
theorem Goes.cons {a : Nat} {m m' m'' : M} (h : m.step = m') (y : Goes a m' m'') : Goes (a + 1) m m'' := by
  rw [Nat.add_comm]; exact (Goes.one h).trans y

section
open PySem.Spec PySem.Calls PyProof.Rows PySem.Builtin.Re
variable {Mo : Model} {A : Around} {E : Value → Shared → Prop} {s : Shared}
theorem drive {Q : M → Shared → Prop} {m' : M} (ho : m'.outcome.isSome = true) (hQ : Q m' s) : ∀ (turns k : Nat) (m : M), k < 4 * turns → stepN k m = m' → wpAny Mo A (reDrive turns m) Q E s
  | 0, k, m, hk, _ => absurd hk (by omega)
  | turns + 1, k, m, hk, e => by
    unfold reDrive
    dsimp only
    have e4 : m.runFor reTurnSteps = stepN 4 m := runFor_eq 4 m
    rw [e4]
    split
    · rename_i h
      have : stepN 4 m = m' := by
        by_cases q : k ≤ 4
        · obtain ⟨j, hj⟩ : ∃ j, 4 = k + j := ⟨4 - k, by omega⟩
          rw [hj, stepN_add, e, stepN_done _ ho]
        · obtain ⟨j, rfl⟩ : ∃ j, k = 4 + j := ⟨k - 4, by omega⟩
          rw [stepN_add, stepN_done _ h] at e
          exact e
      rw [this]
      exact wpAny_pure hQ
    · rename_i h
      have q : 4 < k := by
        refine Nat.lt_of_not_le fun q => h ?_
        obtain ⟨j, hj⟩ : ∃ j, 4 = k + j := ⟨4 - k, by omega⟩
        rw [hj, stepN_add, e, stepN_done _ ho]; exact ho
      obtain ⟨j, rfl⟩ : ∃ j, k = 4 + j := ⟨k - 4, by omega⟩
      rw [stepN_add] at e
      refine wpAny_bind (wpAny_rule ?_)
      exact drive ho hQ turns j _ (by omega) e

theorem rules_any {Q : PUnit → Shared → Prop} {c : Nat → Bool} {n : Nat → String} (h : Q ⟨⟩ s) : ∀ l : List Nat, wpAny Mo A (forIn l PUnit.unit fun i _ => if c i = true then (do rule (n i); pure (ForInStep.yield PUnit.unit)) else pure (ForInStep.yield PUnit.unit)) Q E s
  | [] => by rw [List.forIn_nil]; exact wpAny_pure h
  | i :: l => by
    rw [List.forIn_cons]
    refine wpAny_bind ?_
    split
    · exact wpAny_bind (wpAny_rule (wpAny_pure (rules_any h l)))
    · exact wpAny_pure (rules_any h l)

theorem runEnd {Q : Option M → Shared → Prop} {m m' : M} {k : Nat} (hk : k < 1000000) (g : Goes k m m') (o : Option M) (ho : (m'.outcome = some .matched ∧ o = some m') ∨ (m'.outcome = some .failed ∧ o = none)) (h : Q o s) : wpAny Mo A (reRunToEnd m) Q E s := by
  obtain ⟨j, hj, e⟩ := g
  have hs : m'.outcome.isSome = true := by rcases ho with ⟨q, _⟩ | ⟨q, _⟩ <;> rw [q] <;> rfl
  unfold reRunToEnd
  refine wpAny_bind (drive hs ?_ (2 ^ 64) j m (Nat.lt_of_le_of_lt hj (Nat.lt_trans hk (by decide))) e)
  refine wpAny_bind (rules_any (c := m'.seen.has) (n := fun i => names.getD i "") ?_ _)
  rcases ho with ⟨q, rfl⟩ | ⟨q, rfl⟩ <;> rw [q] <;> exact wpAny_pure h
end
end Mine
end
section
open PySem PySem.Sre
set_option Elab.async false
set_option maxRecDepth 100000
set_option maxHeartbeats 4000000
set_option pp.maxSteps 6000
namespace Mine

noncomputable abbrev C1 : Array Nat := #[14, 4, 0, 1, 4294967295, 17, 0, 24, 11, 1, 4294967295, 13, 6, 16, 32, 16, 9, 0, 1, 17, 1, 1]
/-- about to look at place p -/
noncomputable abbrev S1 (t : Array Nat) (p : Nat) (a b : Option Nat) (hd : Nat) (seen : Seen) (b1 b2 : Bool) : M :=
  { code := C1, text := t, lim := t.size, start := p, lastStart := t.size, wholeText := false, mustAdvance := b2, pc := 5, pos := p, handed := hd, outermost := b1, marks := #[a, b],
    lastmark := -1, lastindex := -1, loops := #[], inner := none, frames := [{ wait := .nextStart, pc := 5, pos := p, outermost := b1 }], weight := 1, answer := none, seen := seen, outcome := none }
noncomputable abbrev S1a (t : Array Nat) (p : Nat) (a b : Option Nat) (hd : Nat) (seen : Seen) (b1 b2 : Bool) : M :=
  { S1 t p a b hd seen b1 b2 with pc := 7, marks := #[some p, b], lastmark := 0, seen := seen.add 17 }
noncomputable abbrev S1n (t : Array Nat) (p : Nat) (a b : Option Nat) (hd : Nat) (seen : Seen) (b1 b2 : Bool) : M :=
  { S1 t p a b hd seen b1 b2 with pc := 7, marks := #[some p, b], lastmark := 0, answer := some false }

theorem s1_mark (t : Array Nat) (p : Nat) (a b : Option Nat) (hd : Nat) (seen : Seen) (b1 b2 : Bool) : (S1 t p a b hd seen b1 b2).step = S1a t p a b hd seen b1 b2 := by rfl

theorem set_no {c : Nat} (h1 : c ≠ 32) (h2 : c ≠ 9) (seen : Seen) : ∃ seen', accepts C1 11 c seen = .ok (false, seen') := by
  refine ⟨((seen.add 16).add 16).add 0, ?_⟩
  have e1 : (c == 32) = false := by simp [h1]
  have e2 : (c == 9) = false := by simp [h2]
  show inSet C1 c 22 13 true seen = _
  unfold inSet
  show (if (c == 32) = true then _ else _) = _
  rw [e1, if_neg (by decide)]
  unfold inSet
  show (if (c == 9) = true then _ else _) = _
  rw [e2, if_neg (by decide)]
  unfold inSet
  rfl
theorem set_yes {c : Nat} (h : c = 32) (seen : Seen) : ∃ seen', accepts C1 11 c seen = .ok (true, seen') := by
  subst h
  exact ⟨_, rfl⟩

theorem s1_miss {t : Array Nat} {p : Nat} (a b : Option Nat) (hd : Nat) (seen : Seen) (b1 b2 : Bool) (hp : p < t.size) (h1 : t.getD p 0 ≠ 32) (h2 : t.getD p 0 ≠ 9) : ∃ seen', (S1a t p a b hd seen b1 b2).step = S1n t p a b hd seen' b1 b2 := by
  obtain ⟨seen', e⟩ := set_no h1 h2 ((((seen.add 17).add 24).add 13))
  refine ⟨seen', ?_⟩
  show (S1a t p a b hd seen b1 b2).exec = _
  unfold M.exec
  show (if ((1 : Nat) : Int) > (t.size : Int) - (p : Int) then _ else _) = _
  rw [if_neg (by omega)]
  obtain ⟨k, hk⟩ : ∃ k, min 4294967295 ((t.size : Int) - (p : Int)).toNat = k + 1 := ⟨min 4294967295 ((t.size : Int) - (p : Int)).toNat - 1, by omega⟩
  have er : Sre.run C1 t 11 (min 4294967295 ((t.size : Int) - (p : Int)).toNat) p 0 (((seen.add 17).add 24).add 13) = .ok (0, seen') := by
    rw [hk]
    unfold Sre.run
    rw [e]
    rfl
  show (match Sre.run C1 t 11 (min 4294967295 ((t.size : Int) - (p : Int)).toNat) p 0 (((seen.add 17).add 24).add 13) with | .error why => _ | .ok (n, seen) => _) = _
  rw [er]
  rfl

theorem s1_end {t : Array Nat} {p : Nat} (a b : Option Nat) (hd : Nat) (seen : Seen) (b1 b2 : Bool) (hp : p = t.size) : ∃ seen', (S1a t p a b hd seen b1 b2).step = S1n t p a b hd seen' b1 b2 := by
  refine ⟨(seen.add 17).add 24, ?_⟩
  show (S1a t p a b hd seen b1 b2).exec = _
  unfold M.exec
  show (if ((1 : Nat) : Int) > (t.size : Int) - (p : Int) then _ else _) = _
  rw [if_pos (by omega)]
  rfl

theorem s1_next {t : Array Nat} {p : Nat} (a b : Option Nat) (hd : Nat) (seen : Seen) (b1 b2 : Bool) (hp : p < t.size) : (S1n t p a b hd seen b1 b2).step = S1 t (p + 1) (some p) b (p + 1) seen false false := by
  show M.resume { S1n t p a b hd seen b1 b2 with answer := none, frames := [], weight := 0, pc := 5 } { wait := .nextStart, pc := 5, pos := p, outermost := b1 } false = _
  unfold M.resume
  show (if p < t.size then _ else _) = _
  rw [if_pos hp]
  rfl
theorem s1_over {t : Array Nat} {p : Nat} (a b : Option Nat) (hd : Nat) (seen : Seen) (b1 b2 : Bool) (hp : p = t.size) : ∃ m', Goes 2 (S1n t p a b hd seen b1 b2) m' ∧ m'.outcome = some .failed := by
  have e : (S1n t p a b hd seen b1 b2).step = { S1n t p a b hd seen b1 b2 with frames := [], weight := 0, pc := 5 } := by
    show M.resume { S1n t p a b hd seen b1 b2 with answer := none, frames := [], weight := 0, pc := 5 } { wait := .nextStart, pc := 5, pos := p, outermost := b1 } false = _
    unfold M.resume
    show (if p < t.size then _ else _) = _
    rw [if_neg (by omega)]
    rfl
  exact ⟨_, .cons e (.one rfl), rfl⟩

noncomputable abbrev F1 (p : Nat) (b1 : Bool) : List Sre.Frame := [{ wait := .giveBack, pc := 7, pos := p + 1, outermost := b1, count := 1, kept := { lastmark := 0, lastindex := -1 } }, { wait := .nextStart, pc := 5, pos := p, outermost := b1 }]
noncomputable abbrev S1b (t : Array Nat) (p : Nat) (b : Option Nat) (seen : Seen) (b1 b2 : Bool) : M :=
  { code := C1, text := t, lim := t.size, start := p, lastStart := t.size, wholeText := false, mustAdvance := b2, pc := 19, pos := p + 1, handed := p + 1, outermost := b1, marks := #[some p, b],
    lastmark := 0, lastindex := -1, loops := #[], inner := none, frames := F1 p b1, weight := 2, answer := none, seen := seen, outcome := none }
noncomputable abbrev S1c (t : Array Nat) (p : Nat) (seen : Seen) (b1 b2 : Bool) : M :=
  { code := C1, text := t, lim := t.size, start := p, lastStart := t.size, wholeText := false, mustAdvance := b2, pc := 21, pos := p + 1, handed := p + 1, outermost := b1, marks := #[some p, some (p + 1)],
    lastmark := 1, lastindex := 1, loops := #[], inner := none, frames := F1 p b1, weight := 2, answer := none, seen := seen, outcome := none }
noncomputable abbrev S1d (t : Array Nat) (p : Nat) (seen : Seen) (b1 b2 : Bool) : M :=
  { code := C1, text := t, lim := t.size, start := p, lastStart := t.size, wholeText := false, mustAdvance := b2, pc := 21, pos := p + 1, handed := p + 1, outermost := b1, marks := #[some p, some (p + 1)],
    lastmark := 1, lastindex := 1, loops := #[], inner := none, frames := F1 p b1, weight := 2, answer := some true, seen := seen, outcome := none }
theorem s1_run {t : Array Nat} {p : Nat} (a b : Option Nat) (hd : Nat) (seen : Seen) (b1 b2 : Bool) (hp : p < t.size) (h1 : t.getD p 0 = 32) (h2 : t.getD (p + 1) 0 ≠ 32) (h3 : t.getD (p + 1) 0 ≠ 9) :
    ∃ seen', (S1a t p a b hd seen b1 b2).step = S1b t p b seen' b1 b2 := by
  obtain ⟨seen1, e1⟩ := set_yes h1 ((((seen.add 17).add 24).add 13))
  obtain ⟨seen2, e2⟩ := set_no h2 h3 seen1
  show ∃ seen', (S1a t p a b hd seen b1 b2).exec = _
  unfold M.exec
  show ∃ seen', (if ((1 : Nat) : Int) > (t.size : Int) - (p : Int) then _ else _) = _
  rw [if_neg (by omega)]
  have er : ∃ seen', Sre.run C1 t 11 (min 4294967295 ((t.size : Int) - (p : Int)).toNat) p 0 (((seen.add 17).add 24).add 13) = .ok (1, seen') := by
    by_cases q : p + 1 < t.size
    · obtain ⟨k, hk⟩ : ∃ k, min 4294967295 ((t.size : Int) - (p : Int)).toNat = k + 1 + 1 := ⟨min 4294967295 ((t.size : Int) - (p : Int)).toNat - 2, by omega⟩
      refine ⟨seen2, ?_⟩
      rw [hk]
      unfold Sre.run
      rw [e1]
      show Sre.run C1 t 11 (k + 1) (p + 1) 1 seen1 = _
      unfold Sre.run
      rw [e2]
      rfl
    · have hk : min 4294967295 ((t.size : Int) - (p : Int)).toNat = 1 := by omega
      refine ⟨seen1, ?_⟩
      rw [hk]
      unfold Sre.run
      rw [e1]
      rfl
  obtain ⟨seen', er⟩ := er
  refine ⟨seen', ?_⟩
  show (match Sre.run C1 t 11 (min 4294967295 ((t.size : Int) - (p : Int)).toNat) p 0 (((seen.add 17).add 24).add 13) with | .error why => _ | .ok (n, seen) => _) = _
  rw [er]
  rfl
theorem s1_bc (t : Array Nat) (p : Nat) (b : Option Nat) (seen : Seen) (b1 b2 : Bool) : (S1b t p b seen b1 b2).step = S1c t p (seen.add 17) b1 b2 := by
  show M.mark _ 1 = _
  unfold M.mark
  dsimp only
  rfl
theorem s1_cd (t : Array Nat) (p : Nat) (seen : Seen) (b1 b2 : Bool) : (S1c t p seen b1 b2).step = S1d t p (seen.add 1) b1 b2 := by
  show (S1c t p seen b1 b2).exec = _
  unfold M.exec
  show (if (b1 && ((false && p + 1 != t.size) || (b2 && p + 1 == p))) = true then _ else _) = _
  rw [if_neg (by simp)]
  rfl
theorem s1_de (t : Array Nat) (p : Nat) (seen : Seen) (b1 b2 : Bool) : ∃ m', Goes 3 (S1d t p seen b1 b2) m' ∧ m'.outcome = some .matched ∧ m'.start = p ∧ m'.handed = p + 1 ∧ m'.marks = #[some p, some (p + 1)] ∧ m'.lastmark = 1 :=
  ⟨(S1d t p seen b1 b2).step.step.step, ⟨3, Nat.le_refl _, rfl⟩, rfl, rfl, rfl, rfl, rfl⟩
theorem s1_hit {t : Array Nat} {p : Nat} (a b : Option Nat) (hd : Nat) (seen : Seen) (b1 b2 : Bool) (hp : p < t.size) (h1 : t.getD p 0 = 32) (h2 : t.getD (p + 1) 0 ≠ 32) (h3 : t.getD (p + 1) 0 ≠ 9) :
    ∃ m', Goes 6 (S1a t p a b hd seen b1 b2) m' ∧ m'.outcome = some .matched ∧ m'.start = p ∧ m'.handed = p + 1 ∧ m'.marks = #[some p, some (p + 1)] ∧ m'.lastmark = 1 := by
  obtain ⟨seen', e⟩ := s1_run a b hd seen b1 b2 hp h1 h2 h3
  obtain ⟨m', g, r⟩ := s1_de t p ((seen'.add 17).add 1) b1 b2
  exact ⟨m', .cons e (.cons (s1_bc ..) (.cons (s1_cd ..) g)), r⟩
theorem s1_scan (t : Array Nat) : ∀ (n p : Nat) (a b : Option Nat) (hd : Nat) (seen : Seen) (b1 b2 : Bool), p + n ≤ t.size → (∀ j, p ≤ j → j < p + n → t.getD j 0 ≠ 32 ∧ t.getD j 0 ≠ 9) →
    ∃ a' b' hd' seen' b1' b2', Goes (3 * n) (S1 t p a b hd seen b1 b2) (S1 t (p + n) a' b' hd' seen' b1' b2')
  | 0, p, a, b, hd, seen, b1, b2, _, _ => ⟨a, b, hd, seen, b1, b2, .refl⟩
  | n + 1, p, a, b, hd, seen, b1, b2, hp, hn => by
    obtain ⟨seen1, e1⟩ := s1_miss a b hd seen b1 b2 (p := p) (t := t) (by omega) (hn p (Nat.le_refl _) (by omega)).1 (hn p (Nat.le_refl _) (by omega)).2
    obtain ⟨a', b', hd', seen', b1', b2', g⟩ := s1_scan t n (p + 1) (some p) b (p + 1) seen1 false false (by omega) (fun j h1 h2 => hn j (by omega) (by omega))
    refine ⟨a', b', hd', seen', b1', b2', ?_⟩
    have := Goes.cons (s1_mark t p a b hd seen b1 b2) (.cons e1 (.cons (s1_next a b hd seen1 b1 b2 (by omega)) g))
    rw [show p + (n + 1) = p + 1 + n by omega]
    exact this.le (by omega)

theorem forSearch_lt {t : Array Nat} {p : Nat} (b2 : Bool) (hp : p < t.size) : forSearch C1 t 1 p t.size b2 = S1 t p none none p (({} : Seen).add 14) true b2 := by
  unfold forSearch
  show (if (decide (p > t.size) || decide (t.size - p < 1)) = true then _ else _) = _
  rw [if_neg (by simp; omega)]
  rfl
theorem forSearch_end {t : Array Nat} {p : Nat} (b2 : Bool) (hp : p = t.size) : ∃ m', Goes 1 (forSearch C1 t 1 p t.size b2) m' ∧ m'.outcome = some .failed := by
  unfold forSearch
  show ∃ m', Goes 1 (if (decide (p > t.size) || decide (t.size - p < 1)) = true then _ else _) _ ∧ _
  rw [if_pos (by simp; omega)]
  exact ⟨_, .one rfl, rfl⟩
theorem search_hit {t : Array Nat} {p q : Nat} (b2 : Bool) (hpq : p ≤ q) (hq : q < t.size) (hn : ∀ j, p ≤ j → j < q → t.getD j 0 ≠ 32 ∧ t.getD j 0 ≠ 9) (h1 : t.getD q 0 = 32) (h2 : t.getD (q + 1) 0 ≠ 32) (h3 : t.getD (q + 1) 0 ≠ 9) :
    ∃ m', Goes (3 * (q - p) + 7) (forSearch C1 t 1 p t.size b2) m' ∧ m'.outcome = some .matched ∧ m'.start = q ∧ m'.handed = q + 1 ∧ m'.marks = #[some q, some (q + 1)] ∧ m'.lastmark = 1 := by
  rw [forSearch_lt b2 (by omega)]
  obtain ⟨a', b', hd', seen', b1', b2', g⟩ := s1_scan t (q - p) p none none p (({} : Seen).add 14) true b2 (by omega) (fun j h1 h2 => hn j h1 (by omega))
  rw [show p + (q - p) = q by omega] at g
  obtain ⟨m', g2, r⟩ := s1_hit a' b' hd' seen' b1' b2' hq h1 h2 h3
  exact ⟨m', g.trans (.cons (s1_mark ..) g2), r⟩
theorem search_miss {t : Array Nat} {p : Nat} (b2 : Bool) (hp : p ≤ t.size) (hn : ∀ j, p ≤ j → j < t.size → t.getD j 0 ≠ 32 ∧ t.getD j 0 ≠ 9) :
    ∃ m', Goes (3 * (t.size - p) + 4) (forSearch C1 t 1 p t.size b2) m' ∧ m'.outcome = some .failed := by
  by_cases hq : p = t.size
  · obtain ⟨m', g, r⟩ := forSearch_end b2 hq
    exact ⟨m', g.le (by omega), r⟩
  · rw [forSearch_lt b2 (by omega)]
    obtain ⟨a', b', hd', seen', b1', b2', g⟩ := s1_scan t (t.size - p) p none none p (({} : Seen).add 14) true b2 (by omega) (fun j h1 h2 => hn j h1 (by omega))
    rw [show p + (t.size - p) = t.size by omega] at g
    obtain ⟨seen2, e2⟩ := s1_end a' b' hd' seen' b1' b2' (p := t.size) (t := t) rfl
    obtain ⟨m', g2, r⟩ := s1_over a' b' hd' seen2 b1' b2' (p := t.size) (t := t) rfl
    exact ⟨m', g.trans (.cons (s1_mark ..) (.cons e2 g2)), r⟩
end Mine
end
section
open PySem PySem.W PyProof.Rows PySem.Calls PySem.Spec Builtin Builtin.ObjectAttr
open PySem.Builtin.Re
set_option Elab.async false
set_option maxRecDepth 100000
set_option maxHeartbeats 4000000
set_option pp.maxSteps 6000
namespace Mine
theorem fillR3 (w : World) (h₀ : Heap) : (hd.heap_1 w.params).In h₀ → PySem.Challenge.rw_zd0011_01.Holds → True := by k_fill; intros; trivial
noncomputable abbrev St6 := Array Value × Nat × Nat × Bool × Int × Bool
/-- pieces joined by one blank each -/
noncomputable def joinSp : List (List Nat) → List Nat
  | [] => []
  | [q] => q
  | q :: r => q ++ 32 :: joinSp r
noncomputable abbrev strOf (q : List Nat) : Str := ⟨q.toArray⟩
/-- what a split at the blanks gives -/
noncomputable def cutS : List (List Nat) → List Str
  | [] => []
  | [q] => [strOf q]
  | q :: r => strOf q :: strOf [32] :: cutS r
theorem joinSp_len : ∀ qs : List (List Nat), qs.length ≤ (joinSp qs).length + 1
  | [] => Nat.zero_le _
  | [q] => by simp
  | q :: q' :: r => by
    have := joinSp_len (q' :: r)
    show _ ≤ (q ++ 32 :: joinSp (q' :: r)).length + 1
    simp only [List.length_cons, List.length_append] at this ⊢
    omega
theorem extract_of {t : Array Nat} {o : Nat} {q rest : List Nat} (h : t.toList.drop o = q ++ rest) : t.extract o (o + q.length) = q.toArray := by
  apply Array.ext'
  rw [Array.toList_extract, List.extract_eq_take_drop, h]
  simp
theorem getD_of {t : Array Nat} {o : Nat} {l : List Nat} (h : t.toList.drop o = l) (j : Nat) : t.getD (o + j) 0 = l.getD j 0 := by
  rw [← h, List.getD_eq_getElem?_getD, List.getElem?_drop]
  simp [Array.getD_eq_getD_getElem?]
theorem size_of {t : Array Nat} {o : Nat} {l : List Nat} (h : t.toList.drop o = l) (ho : o ≤ t.size) : t.size = o + l.length := by
  have := congrArg List.length h
  simp at this
  omega

section
variable {Mo : Model} {A : Around} {E : Value → Shared → Prop}
/-- the loop of split, told by its turns -/
theorem split_loop {F : Nat → St6 → Sem (ForInStep St6)} {t : Array Nat}
    (hit : ∀ x out o q s (Q : ForInStep St6 → Shared → Prop) (n : Int), o ≤ q → q < t.size → (∀ j, o ≤ j → j < q → t.getD j 0 ≠ 32 ∧ t.getD j 0 ≠ 9) → t.getD q 0 = 32 → t.getD (q + 1) 0 ≠ 32 → t.getD (q + 1) 0 ≠ 9 →
      (∀ k1 k2 k3, Q (.yield ((out.push (.str ⟨t.extract o q⟩ k1)).push (.str ⟨t.extract q (q + 1)⟩ k2), q + 1, q + 1, false, n + 1, false)) { s with toks := k3 }) → wpAny Mo A (F x (out, o, o, false, n, false)) Q E s)
    (miss : ∀ x out o s (Q : ForInStep St6 → Shared → Prop) (n : Int), o ≤ t.size → (∀ j, o ≤ j → j < t.size → t.getD j 0 ≠ 32 ∧ t.getD j 0 ≠ 9) →
      Q (.yield (out, o, o, false, n, true)) s → wpAny Mo A (F x (out, o, o, false, n, false)) Q E s)
    (over : ∀ x out o s (Q : ForInStep St6 → Shared → Prop) (n : Int), Q (.yield (out, o, o, false, n, true)) s → wpAny Mo A (F x (out, o, o, false, n, true)) Q E s) :
    ∀ (qs : List (List Nat)) (l : List Nat) (out : Array Value) (done : List Str) (o : Nat) (n : Int) (s : Shared) (Q : St6 → Shared → Prop), qs ≠ [] → (∀ q ∈ qs, q ≠ [] ∧ 32 ∉ q ∧ 9 ∉ q) → qs.length ≤ l.length → o ≤ t.size → t.toList.drop o = joinSp qs → StrsAre out.toList done →
      (∀ out' o' n' k, (∀ tok, StrsAre (out'.push (.str ⟨t.extract o' t.size⟩ tok)).toList (done ++ cutS qs)) → Q (out', o', o', false, n', true) { s with toks := k }) →
      wpAny Mo A (forIn l ((out, o, o, false, n, false) : St6) F) Q E s := by
  have rest : ∀ (l : List Nat) (out : Array Value) (o : Nat) (n : Int) (s : Shared) (Q : St6 → Shared → Prop), Q (out, o, o, false, n, true) s → wpAny Mo A (forIn l ((out, o, o, false, n, true) : St6) F) Q E s := by
    intro l
    induction l with
    | nil => intro out o n s Q h; rw [List.forIn_nil]; exact wpAny_pure h
    | cons x l ih => intro out o n s Q h; rw [List.forIn_cons]; exact wpAny_bind (over _ _ _ _ _ _ (ih _ _ _ _ _ h))
  intro qs
  induction qs with
  | nil => intro l out done o n s Q hne; exact absurd rfl hne
  | cons q r ih =>
    intro l out done o n s Q hne hq hl ho hd hs hQ
    cases l with
    | nil => simp at hl
    | cons x l =>
    rw [List.forIn_cons]
    have hsz := size_of hd ho
    have nb : ∀ {p : List Nat} {j : Nat}, 32 ∉ p → 9 ∉ p → j < p.length → p.getD j 0 ≠ 32 ∧ p.getD j 0 ≠ 9 := fun {p j} a b c => by
      have hm : p.getD j 0 ∈ p := by rw [List.getD_eq_getElem?_getD, List.getElem?_eq_getElem c]; exact List.getElem_mem c
      exact ⟨fun e => a (e ▸ hm), fun e => b (e ▸ hm)⟩
    have hq0 := hq q List.mem_cons_self
    cases r with
    | nil =>
      change t.toList.drop o = q at hd
      refine wpAny_bind (miss _ _ _ _ _ _ ho (fun j h1 h2 => ?_) (rest _ _ _ _ _ _ ?_))
      · obtain ⟨i, rfl⟩ : ∃ i, j = o + i := ⟨j - o, by omega⟩
        rw [getD_of hd]
        have hsz' := size_of hd ho
        exact nb hq0.2.1 hq0.2.2 (by omega)
      · refine hQ out o n s.toks fun tok => ?_
        have hsz' := size_of hd ho
        have e : t.extract o t.size = q.toArray := by rw [hsz']; exact extract_of (rest := []) (by simpa using hd)
        rw [e, Array.toList_push]
        exact strsAre_append _ _ hs
    | cons q' r =>
      change t.toList.drop o = q ++ 32 :: joinSp (q' :: r) at hd
      have hj : ∀ j, t.getD (o + j) 0 = (q ++ 32 :: joinSp (q' :: r)).getD j 0 := getD_of hd
      have hq1 := hq q' (List.mem_cons_of_mem _ List.mem_cons_self)
      have hlen := size_of hd ho
      rw [List.length_append, List.length_cons] at hlen
      have hd' : t.toList.drop (o + q.length + 1) = joinSp (q' :: r) := by
        rw [show o + q.length + 1 = o + (q.length + 1) by omega, ← List.drop_drop, hd, List.drop_append]
        simp
      obtain ⟨c, q'', rfl⟩ : ∃ c q'', q' = c :: q'' := by
        cases q' with
        | nil => exact absurd rfl hq1.1
        | cons c q'' => exact ⟨c, q'', rfl⟩
      have hc : t.getD (o + q.length + 1) 0 = c := by
        rw [show o + q.length + 1 = (o + q.length + 1) + 0 by omega, getD_of hd' 0]
        cases r <;> rfl
      have hc2 : c ≠ 32 ∧ c ≠ 9 := by
        have := nb (p := c :: q'') (j := 0) hq1.2.1 hq1.2.2 (by simp)
        simpa using this
      refine wpAny_bind (hit _ _ _ (o + q.length) _ _ _ (by omega) (by omega) (fun j h1 h2 => ?_) ?_ (by rw [hc]; exact hc2.1) (by rw [hc]; exact hc2.2) fun k1 k2 k3 => ?_)
      · obtain ⟨i, rfl⟩ : ∃ i, j = o + i := ⟨j - o, by omega⟩
        rw [hj]
        have e : (q ++ 32 :: joinSp ((c :: q'') :: r)).getD i 0 = q.getD i 0 := by
          rw [List.getD_eq_getElem?_getD, List.getElem?_append_left (by omega), List.getD_eq_getElem?_getD]
        rw [e]
        exact nb hq0.2.1 hq0.2.2 (by omega)
      · rw [hj, List.getD_eq_getElem?_getD, List.getElem?_append_right (Nat.le_refl _)]; simp
      · dsimp only
        have e1 : t.extract o (o + q.length) = q.toArray := extract_of hd
        have e2 : t.extract (o + q.length) (o + q.length + 1) = [32].toArray := extract_of (q := [32]) (rest := joinSp ((c :: q'') :: r)) (by rw [← List.drop_drop, hd]; simp)
        rw [e1, e2]
        refine ih l _ (done ++ [strOf q] ++ [strOf [32]]) _ _ _ _ (by simp) (fun p hp => hq p (List.mem_cons_of_mem _ hp)) (by simp at hl ⊢; omega) (by omega) hd' ?_ fun out' o' n' k hk => ?_
        · rw [Array.toList_push, Array.toList_push]
          exact strsAre_append _ _ (strsAre_append _ _ hs)
        · refine hQ out' o' n' k fun tok => ?_
          have := hk tok
          simpa [cutS] using this
end

section
variable {w : World} {mg mb : Str → Option Value} {A : Around} {s : Shared} {h₀ h : Heap} {L K : Addr} {m : Str → Option Value} {l la r rest news : List (Addr × Obj)}
theorem C1_of : Array.map (fun x : Int => x.toNat) (Array.map reRawOf #[.int 14 0, .int 4 0, .int 0 0, .int 1 0, .int 4294967295 0, .int 17 0, .int 0 0, .int 24 0, .int 11 0, .int 1 0, .int 4294967295 0, .int 13 0, .int 6 0, .int 16 0, .int 32 0, .int 16 0, .int 9 0, .int 0 0, .int 1 0, .int 17 0, .int 1 0, .int 1 0]) = C1 := by simp [reRawOf]
noncomputable abbrev TG (t : Str) (tk : Tok) : ReTarget := { pattern := .ref 63, string := .str t tk, code := C1, text := t.cps, kind := 0, groups := 1, pos := 0, lim := t.cps.size }
theorem split_ok {t : Str} {qs : List (List Nat)} (ht : t.cps.toList = joinSp qs) (hne : qs ≠ []) (hqs : ∀ q ∈ qs, q ≠ [] ∧ 32 ∉ q ∧ 9 ∉ q) (hsz : t.cps.size ≤ 1000) : SplitOk w t (cutS qs) := by
  intro A Q E s tk X hQ
  unfold Builtin.«re.Pattern.split»
  show wpAny _ _ (reNamed "re.Pattern.split" "split" ["string", "maxsplit"] 1 [.str t tk] [] >>= _) _ _ _
  refine wpAny_bind (wpAny_of_eq (a := [some (.str t tk), none]) (by kernel_rfl) ?_)
  dsimp only
  refine wpAny_bind (wpAny_pure ?_)
  refine wpAny_bind ?_
  unfold reWholeTarget
  have h63 := X 63 _ (by k_is)
  have h62 := X 62 _ (by k_is)
  refine wpAny_bind (wpAny_fieldsOf h63 rfl ?_)
  refine wpAny_bind (wpAny_pure (a := (t.cps, 0)) ?_)
  dsimp only
  rw [if_neg (by decide), if_neg (by decide)]
  refine wpAny_bind (wpAny_pure ?_)
  refine wpAny_bind ?_
  show wpAny _ _ (reRawItems (.ref 62)) _ _ _
  unfold reRawItems
  refine wpAny_bind (wpAny_seqItems h62 rfl (wpAny_pure ?_))
  rw [Option.getD_some, C1_of]
  refine wpAny_pure ?_
  show wpAny _ _ (forIn (List.range (reMostMatches (TG t tk))) _ _ >>= _) _ _ _
  refine wpAny_bind (split_loop (t := t.cps) ?hit ?miss ?over qs _ #[] [] 0 0 _ _ hne hqs ?len (Nat.zero_le _) ?drop .nil ?fin)
  case hit =>
    intro x out o q s' Q' n h1 h2 h3 h4 h5 h6 hq
    obtain ⟨m', g, r1, r2, r3, r4, r5⟩ := search_hit false h1 h2 h3 h4 h5 h6
    dsimp only
    rw [if_pos (by rfl), if_neg (by simp)]
    refine wpAny_bind ?_
    show wpAny _ _ (reRunToEnd (Sre.forSearch C1 t.cps 1 o t.cps.size false)) _ _ _
    refine runEnd (by omega) g (some m') (.inl ⟨r1, rfl⟩) ?_
    dsimp only
    rw [r2]
    refine wpAny_bind ?_
    show wpAny _ _ (mkStr ⟨t.cps.extract o q⟩) _ _ _
    refine wpAny_mkStr ?_ (by show (t.cps.extract o q).size ≤ sizeLine; rw [sizeLine_eq, Array.size_extract]; omega)
    refine wpAny_bind ?_
    show wpAny _ _ (forIn [0] _ _) _ _ _
    rw [List.forIn_cons]
    refine wpAny_bind (wpAny_bind ?_)
    have e : reMachineGroup (TG t tk) m' (0 + 1) (pure .none) = mkStr ⟨t.cps.extract q (q + 1)⟩ := by
      unfold reMachineGroup
      rw [r5, r4]
      show (if ((0 : Nat) : Int) ≥ 1 then _ else if q + 1 < q then _ else _) = _
      rw [if_neg (by decide), if_neg (by omega)]
      rfl
    show wpAny _ _ (reMachineGroup (TG t tk) m' (0 + 1) (pure .none)) _ _ _
    rw [e]
    refine wpAny_mkStr ?_ (by show (t.cps.extract q (q + 1)).size ≤ sizeLine; rw [sizeLine_eq, Array.size_extract]; omega)
    refine wpAny_pure ?_
    dsimp only
    rw [List.forIn_nil]
    refine wpAny_pure ?_
    refine wpAny_pure ?_
    rw [r3, show (q + 1 == q) = false by simp]
    exact hq _ _ _
  case miss =>
    intro x out o s' Q' n h1 h2 hq
    obtain ⟨m', g, r1⟩ := search_miss false h1 h2
    dsimp only
    rw [if_pos (by rfl), if_neg (by simp)]
    refine wpAny_bind ?_
    show wpAny _ _ (reRunToEnd (Sre.forSearch C1 t.cps 1 o t.cps.size false)) _ _ _
    refine runEnd (by omega) g none (.inr ⟨r1, rfl⟩) ?_
    exact wpAny_pure hq
  case over =>
    intro x out o s' Q' n hq
    dsimp only
    rw [if_neg (by decide)]
    exact wpAny_pure hq
  case len =>
    rw [List.length_range]
    have := joinSp_len qs
    rw [← ht] at this
    show qs.length ≤ 2 * t.cps.size + 3
    simp at this
    omega
  case drop => exact ht
  case fin =>
    intro out' o' n' k hk
    dsimp only
    rw [if_neg (by decide)]
    refine wpAny_bind ?_
    show wpAny _ _ (mkStr ⟨t.cps.extract o' t.cps.size⟩) _ _ _
    refine wpAny_mkStr ?_ (by show (t.cps.extract o' t.cps.size).size ≤ sizeLine; rw [sizeLine_eq, Array.size_extract]; omega)
    refine wpAny_bind (wpAny_newList ?_ ?_)
    · refine wpAny_pure ?_
      refine hQ _ _ ?_
      have := hk k
      simpa using this
    · have := strsAre_len (hk 0)
      have l1 := joinSp_len qs
      rw [← ht] at l1
      have l2 : ∀ qs : List (List Nat), (cutS qs).length ≤ 2 * qs.length := by
        intro qs
        induction qs with
        | nil => exact Nat.le_refl _
        | cons q r ih =>
          cases r with
          | nil => simp [cutS]
          | cons q' r => simp [cutS] at ih ⊢; omega
      have l3 := l2 qs
      simp at this l1 ⊢
      rw [sizeLine_eq]
      omega
end
end Mine
end
section
open PySem PySem.Sre
set_option Elab.async false
set_option maxRecDepth 100000
set_option maxHeartbeats 4000000
set_option pp.maxSteps 6000
namespace Mine

noncomputable abbrev C2 : Array Nat := #[14, 4, 0, 8, 4294967295, 24, 5, 0, 4294967295, 2, 1, 16, 70, 16, 76, 16, 65, 16, 71, 16, 83, 16, 32, 16, 40, 17, 0, 24, 6, 0, 4294967295, 20, 41, 1, 17, 1, 16, 41, 1]

theorem lit_go {m : M} {c : Nat} (h0 : m.outcome = none) (h1 : m.answer = none) (h2 : m.pc < m.code.size) (h3 : m.code.getD m.pc 0 = 16) (h4 : m.code.getD (m.pc + 1) 0 = c) (h5 : m.pos < m.lim) (h6 : m.text.getD m.pos 0 = c) :
    m.step = { m with seen := m.seen.add 16, pc := m.pc + 2, pos := m.pos + 1 } := by
  obtain ⟨code, text, lim, start, lastStart, wholeText, mustAdvance, pc, pos, handed, outermost, marks, lastmark, lastindex, loops, inner, frames, weight, answer, seen, outcome⟩ := m
  dsimp only at h0 h1 h2 h3 h4 h5 h6 ⊢
  subst h0 h1
  unfold M.step
  show (if pc < code.size then M.exec _ else _) = _
  rw [if_pos h2]
  unfold M.exec
  have hw : M.word ⟨code, text, lim, start, lastStart, wholeText, mustAdvance, pc, pos, handed, outermost, marks, lastmark, lastindex, loops, inner, frames, weight, none, seen, none⟩ 0 = 16 := h3
  rw [hw]
  show (if pos ≥ lim then _ else _) = _
  rw [if_neg (by omega)]
  have ea : ∀ sn, accepts code pc (text.getD pos 0) sn = .ok (true, sn) := fun sn => by
    unfold accepts
    rw [h3]
    show Except.ok (text.getD pos 0 == code.getD (pc + 1) 0, sn) = _
    rw [h4, h6]; simp
  have ew : itemWidth code pc = 2 := by
    unfold itemWidth
    rw [h3]; rfl
  show (match accepts code pc (text.getD pos 0) (seen.add 16) with | .error why => _ | .ok (false, seen) => _ | .ok (true, seen) => _) = _
  rw [ea]
  dsimp only
  rw [ew]
theorem lit_stop {m : M} {c : Nat} (h0 : m.outcome = none) (h1 : m.answer = none) (h2 : m.pc < m.code.size) (h3 : m.code.getD m.pc 0 = 16) (h4 : m.code.getD (m.pc + 1) 0 = c) (h5 : m.lim ≤ m.pos ∨ m.text.getD m.pos 0 ≠ c) :
    m.step = { m with seen := m.seen.add 16, answer := some false } := by
  obtain ⟨code, text, lim, start, lastStart, wholeText, mustAdvance, pc, pos, handed, outermost, marks, lastmark, lastindex, loops, inner, frames, weight, answer, seen, outcome⟩ := m
  dsimp only at h0 h1 h2 h3 h4 h5 ⊢
  subst h0 h1
  unfold M.step
  show (if pc < code.size then M.exec _ else _) = _
  rw [if_pos h2]
  unfold M.exec
  have hw : M.word ⟨code, text, lim, start, lastStart, wholeText, mustAdvance, pc, pos, handed, outermost, marks, lastmark, lastindex, loops, inner, frames, weight, none, seen, none⟩ 0 = 16 := h3
  rw [hw]
  show (if pos ≥ lim then _ else _) = _
  by_cases q : lim ≤ pos
  · rw [if_pos q]; rfl
  · rw [if_neg q]
    have h6 : text.getD pos 0 ≠ c := h5.resolve_left q
    have ea : ∀ sn, accepts code pc (text.getD pos 0) sn = .ok (false, sn) := fun sn => by
      unfold accepts
      rw [h3]
      show Except.ok (text.getD pos 0 == code.getD (pc + 1) 0, sn) = _
      rw [h4, beq_eq_false_iff_ne.mpr h6]
    show (match accepts code pc (text.getD pos 0) (seen.add 16) with | .error why => _ | .ok (false, seen) => _ | .ok (true, seen) => _) = _
    rw [ea]
    rfl

theorem run_of {code t : Array Nat} {i : Nat} {acc : Nat → Bool} (ha : ∀ c sn, accepts code i c sn = .ok (acc c, sn)) : ∀ (k n p f : Nat) (sn : Seen), k ≤ n → (∀ j, j < k → acc (t.getD (p + j) 0) = true) → (k = n ∨ acc (t.getD (p + k) 0) = false) → Sre.run code t i n p f sn = .ok (f + k, sn)
  | 0, 0, p, f, sn, _, _, _ => rfl
  | 0, n + 1, p, f, sn, _, _, h => by
    have h' : acc (t.getD p 0) = false := by rcases h with h | h; · cases h
                                             · exact h
    unfold Sre.run
    rw [ha, h']
    rfl
  | k + 1, 0, p, f, sn, hk, _, _ => by omega
  | k + 1, n + 1, p, f, sn, hk, hj, h => by
    unfold Sre.run
    rw [ha, show acc (t.getD p 0) = true from hj 0 (by omega)]
    show Sre.run code t i n (p + 1) (f + 1) sn = _
    rw [run_of ha k n (p + 1) (f + 1) sn (by omega) (fun j hj' => by have := hj (j + 1) (by omega); rwa [show p + (j + 1) = p + 1 + j by omega] at this) (by
      rcases h with h | h
      · exact .inl (by omega)
      · exact .inr (by rwa [show p + (k + 1) = p + 1 + k by omega] at h))]
    rw [show f + 1 + k = f + (k + 1) by omega]
theorem acc_any (c : Nat) (sn : Seen) : accepts C2 9 c sn = .ok (c != 10, sn) := rfl
theorem acc_not (c : Nat) (sn : Seen) : accepts C2 31 c sn = .ok (c != 41, sn) := rfl

noncomputable abbrev G1 (k : Nat) : Sre.Frame := { wait := .giveBack, pc := 5, pos := k, outermost := true, count := k, kept := { lastmark := -1, lastindex := -1 } }
/-- at the literals, the i-th of them, begun at k -/
noncomputable abbrev L2 (t : Array Nat) (pc pos k : Nat) (seen : Seen) : M :=
  { code := C2, text := t, lim := t.size, start := 0, lastStart := 0, wholeText := false, mustAdvance := false, pc := pc, pos := pos, handed := k, outermost := true, marks := #[none, none],
    lastmark := -1, lastindex := -1, loops := #[], inner := none, frames := [G1 k], weight := 1, answer := none, seen := seen, outcome := none }
noncomputable abbrev L2n (t : Array Nat) (pc pos k : Nat) (seen : Seen) : M := { L2 t pc pos k seen with answer := some false }

noncomputable abbrev I2 (t : Array Nat) : M :=
  { code := C2, text := t, lim := t.size, start := 0, lastStart := 0, wholeText := false, mustAdvance := false, pc := 5, pos := 0, handed := 0, outermost := true, marks := #[none, none],
    lastmark := -1, lastindex := -1, loops := #[], inner := none, frames := [], weight := 0, answer := none, seen := ({} : Seen).add 14, outcome := none }
theorem forMatch_begin {t : Array Nat} {n : Nat} (h8 : 8 ≤ t.size) (hz : t.size ≤ 1000) (hn : n ≤ t.size) (h1 : ∀ j, j < n → t.getD j 0 ≠ 10) (h2 : n = t.size ∨ t.getD n 0 = 10) :
    ∃ seen, Goes 1 (forMatch C2 t 1 0 t.size false false) (L2 t 11 n n seen) := by
  unfold forMatch
  show ∃ seen, Goes 1 (if ((true && decide (0 ≤ t.size)) && decide (t.size - 0 < 8)) = true then _ else _) _
  rw [if_neg (by simp; omega)]
  have er : ∀ sn, Sre.run C2 t 9 (min 4294967295 ((t.size : Int) - ((0 : Nat) : Int)).toNat) 0 0 sn = .ok (n, sn) := fun sn => by
    have hmin : min 4294967295 ((t.size : Int) - ((0 : Nat) : Int)).toNat = t.size := by omega
    have h2' : n = t.size ∨ (t.getD (0 + n) 0 != 10) = false := by
      rcases h2 with h2 | h2
      · exact .inl h2
      · rw [Nat.zero_add, h2]; exact .inr rfl
    rw [hmin, run_of (acc := fun c => c != 10) acc_any n t.size 0 0 sn hn (fun j hj => by simpa using h1 j hj) h2', Nat.zero_add]
  refine ⟨((({} : Seen).add 14).add 24).add 2, .one ?_⟩
  show M.exec (I2 t) = _
  unfold M.exec
  show (if ((0 : Nat) : Int) > (t.size : Int) - ((0 : Nat) : Int) then _ else _) = _
  rw [if_neg (by omega)]
  show (match Sre.run C2 t 9 (min 4294967295 ((t.size : Int) - ((0 : Nat) : Int)).toNat) 0 0 (((({} : Seen).add 14).add 24).add 2) with | .error why => _ | .ok (n, seen) => _) = _
  rw [er]
  show (if n < 0 then _ else _) = _
  rw [if_neg (Nat.not_lt_zero _), Nat.zero_add]
  rfl

theorem lit_ops : ∀ i, i < 7 → C2.getD (11 + 2 * i) 0 = 16 := by decide
theorem try_fail {t : Array Nat} {k : Nat} : ∀ (d i : Nat) (seen : Seen), i + d = 7 → (∃ j, i ≤ j ∧ j < 7 ∧ (t.size ≤ k + j ∨ t.getD (k + j) 0 ≠ C2.getD (11 + 2 * j + 1) 0)) → ∃ pc pos seen', Goes d (L2 t (11 + 2 * i) (k + i) k seen) (L2n t pc pos k seen')
  | 0, i, seen, hi, ⟨j, h1, h2, _⟩ => by omega
  | d + 1, i, seen, hi, ⟨j, h1, h2, h3⟩ => by
    by_cases q : t.size ≤ k + i ∨ t.getD (k + i) 0 ≠ C2.getD (11 + 2 * i + 1) 0
    · refine ⟨11 + 2 * i, k + i, seen.add 16, Goes.le (.one ?_) (by omega : 1 ≤ d + 1)⟩
      exact lit_stop rfl rfl (show 11 + 2 * i < 39 by omega) (lit_ops i (by omega)) rfl q
    · have hne : j ≠ i := fun e => q (e ▸ h3)
      obtain ⟨pc, pos, seen', g⟩ := try_fail (t := t) (k := k) d (i + 1) (seen.add 16) (by omega) ⟨j, by omega, h2, h3⟩
      refine ⟨pc, pos, seen', .cons ?_ g⟩
      simp only [not_or, Nat.not_le, Decidable.not_not] at q
      exact lit_go rfl rfl (show 11 + 2 * i < 39 by omega) (lit_ops i (by omega)) rfl q.1 q.2
theorem try_ok {t : Array Nat} {k : Nat} : ∀ (d i : Nat) (seen : Seen), i + d = 7 → (∀ j, i ≤ j → j < 7 → k + j < t.size ∧ t.getD (k + j) 0 = C2.getD (11 + 2 * j + 1) 0) → ∃ seen', Goes d (L2 t (11 + 2 * i) (k + i) k seen) (L2 t 25 (k + 7) k seen')
  | 0, i, seen, hi, _ => by
    obtain rfl : i = 7 := by omega
    exact ⟨seen, .refl⟩
  | d + 1, i, seen, hi, h => by
    obtain ⟨seen', g⟩ := try_ok (t := t) (k := k) d (i + 1) (seen.add 16) (by omega) (fun j h1 h2 => h j (by omega) h2)
    obtain ⟨q1, q2⟩ := h i (Nat.le_refl _) (by omega)
    exact ⟨seen', .cons (lit_go rfl rfl (show 11 + 2 * i < 39 by omega) (lit_ops i (by omega)) rfl q1 q2) g⟩

theorem back_one (t : Array Nat) (pc pos k : Nat) (seen : Seen) : (L2n t pc pos (k + 1) seen).step = L2 t 11 k k seen := by
  show M.resume { L2n t pc pos (k + 1) seen with answer := none, frames := [], weight := 0, pc := 5, pos := k + 1 } (G1 (k + 1)) false = _
  unfold M.resume
  show (if ((k + 1 : Nat) : Int) - 1 < ((0 : Nat) : Int) then _ else _) = _
  rw [if_neg (by omega)]
  show M.afterRun _ _ (((k + 1 : Nat) : Int) - 1) _ = _
  rw [show ((k + 1 : Nat) : Int) - 1 = (k : Int) by omega]
  rfl
/-- from the run's end back to the text's head -/
theorem back_all {t : Array Nat} : ∀ (k : Nat) (seen : Seen), (∀ p, 1 ≤ p → p ≤ k → ∃ j, j < 7 ∧ (t.size ≤ p + j ∨ t.getD (p + j) 0 ≠ C2.getD (11 + 2 * j + 1) 0)) → ∃ seen', Goes (8 * k) (L2 t 11 k k seen) (L2 t 11 0 0 seen')
  | 0, seen, _ => ⟨seen, .refl⟩
  | k + 1, seen, h => by
    obtain ⟨j, h1, h2⟩ := h (k + 1) (by omega) (Nat.le_refl _)
    obtain ⟨pc, pos, s1, g1⟩ := try_fail (t := t) (k := k + 1) 7 0 seen rfl ⟨j, Nat.zero_le _, h1, h2⟩
    obtain ⟨s2, g2⟩ := back_all k s1 (fun p h1 h2 => h p h1 (by omega))
    exact ⟨s2, (g1.trans (.cons (back_one t pc pos k s1) g2)).le (by omega)⟩

noncomputable abbrev G2 (p c : Nat) : Sre.Frame := { wait := .giveBack, pc := 27, pos := p, outermost := true, count := c, kept := { lastmark := 0, lastindex := -1 } }
noncomputable abbrev E2 (t : Array Nat) (seen : Seen) : M := { L2 t 27 7 0 seen with marks := #[some 7, none], lastmark := 0 }
noncomputable abbrev D2 (t : Array Nat) (j : Nat) (x : Option Nat) (seen : Seen) : M :=
  { code := C2, text := t, lim := t.size, start := 0, lastStart := 0, wholeText := false, mustAdvance := false, pc := 34, pos := 7 + j, handed := 7 + j, outermost := true, marks := #[some 7, x],
    lastmark := 0, lastindex := -1, loops := #[], inner := none, frames := [G2 (7 + j) j, G1 0], weight := 2, answer := none, seen := seen, outcome := none }
noncomputable abbrev D2m (t : Array Nat) (j : Nat) (seen : Seen) : M := { D2 t j none seen with pc := 36, marks := #[some 7, some (7 + j)], lastmark := 1, lastindex := 1 }
noncomputable abbrev D2n (t : Array Nat) (j : Nat) (seen : Seen) : M := { D2m t j seen with answer := some false }
noncomputable abbrev D2s (t : Array Nat) (j : Nat) (seen : Seen) : M := { D2m t j seen with pc := 38, pos := 7 + j + 1 }
theorem mid_mark (t : Array Nat) (seen : Seen) : (L2 t 25 7 0 seen).step = E2 t (seen.add 17) := by
  show M.mark _ 0 = _
  unfold M.mark
  dsimp only
  rfl
theorem mid_run {t : Array Nat} {n : Nat} (seen : Seen) (hz : t.size ≤ 1000) (hn : 7 + n ≤ t.size) (h1 : ∀ j, j < n → t.getD (7 + j) 0 ≠ 41) (h2 : 7 + n = t.size ∨ t.getD (7 + n) 0 = 41) :
    (E2 t seen).step = D2 t n none ((seen.add 24).add 20) := by
  have er : ∀ sn, Sre.run C2 t 31 (min 4294967295 ((t.size : Int) - ((7 : Nat) : Int)).toNat) 7 0 sn = .ok (n, sn) := fun sn => by
    have hmin : min 4294967295 ((t.size : Int) - ((7 : Nat) : Int)).toNat = t.size - 7 := by omega
    have h2' : n = t.size - 7 ∨ (t.getD (7 + n) 0 != 41) = false := by
      rcases h2 with h2 | h2
      · exact .inl (by omega)
      · rw [h2]; exact .inr rfl
    rw [hmin, run_of (acc := fun c => c != 41) acc_not n (t.size - 7) 7 0 sn (by omega) (fun j hj => by simpa using h1 j hj) h2', Nat.zero_add]
  show M.exec (E2 t seen) = _
  unfold M.exec
  show (if ((0 : Nat) : Int) > (t.size : Int) - ((7 : Nat) : Int) then _ else _) = _
  rw [if_neg (by omega)]
  show (match Sre.run C2 t 31 (min 4294967295 ((t.size : Int) - ((7 : Nat) : Int)).toNat) 7 0 ((seen.add 24).add 20) with | .error why => _ | .ok (n, seen) => _) = _
  rw [er]
  show (if n < 0 then _ else _) = _
  rw [if_neg (Nat.not_lt_zero _)]
  rfl
theorem d_mark (t : Array Nat) (j : Nat) (x : Option Nat) (seen : Seen) : (D2 t j x seen).step = D2m t j (seen.add 17) := by
  show M.mark _ 1 = _
  unfold M.mark
  dsimp only
  rfl
theorem d_yes {t : Array Nat} {j : Nat} (seen : Seen) (h : 7 + j < t.size) (h1 : t.getD (7 + j) 0 = 41) : (D2m t j seen).step = D2s t j (seen.add 16) := lit_go rfl rfl (show 36 < 39 by decide) rfl rfl h h1
theorem d_no {t : Array Nat} {j : Nat} (seen : Seen) (h1 : t.size ≤ 7 + j ∨ t.getD (7 + j) 0 ≠ 41) : (D2m t j seen).step = D2n t j (seen.add 16) := lit_stop rfl rfl (show 36 < 39 by decide) rfl rfl h1
theorem d_done (t : Array Nat) (j : Nat) (seen : Seen) : ∃ m', Goes 4 (D2s t j seen) m' ∧ m'.outcome = some .matched ∧ m'.start = 0 ∧ m'.handed = 7 + j + 1 ∧ m'.marks = #[some 7, some (7 + j)] ∧ m'.lastmark = 1 ∧ m'.lastindex = 1 :=
  ⟨(D2s t j seen).step.step.step.step, ⟨4, Nat.le_refl _, rfl⟩, rfl, rfl, rfl, rfl, rfl, rfl⟩
theorem d_back (t : Array Nat) (j : Nat) (seen : Seen) : (D2n t (j + 1) seen).step = D2 t j (some (7 + (j + 1))) seen := by
  show M.resume { D2n t (j + 1) seen with answer := none, frames := [G1 0], weight := 1, pc := 27, pos := 7 + (j + 1) } (G2 (7 + (j + 1)) (j + 1)) false = _
  unfold M.resume
  show (if ((j + 1 : Nat) : Int) - 1 < ((0 : Nat) : Int) then _ else _) = _
  rw [if_neg (by omega)]
  show M.afterRun _ _ (((j + 1 : Nat) : Int) - 1) _ = _
  rw [show ((j + 1 : Nat) : Int) - 1 = (j : Int) by omega]
  rfl
theorem d_over (t : Array Nat) (seen : Seen) : ∃ m', Goes 3 (D2n t 0 seen) m' ∧ m'.outcome = some .failed :=
  ⟨(D2n t 0 seen).step.step.step, ⟨3, Nat.le_refl _, rfl⟩, rfl⟩
theorem d_all {t : Array Nat} : ∀ (j : Nat) (x : Option Nat) (seen : Seen), (∀ i, i ≤ j → t.size ≤ 7 + i ∨ t.getD (7 + i) 0 ≠ 41) → ∃ m', Goes (3 * j + 5) (D2 t j x seen) m' ∧ m'.outcome = some .failed
  | 0, x, seen, h => by
    obtain ⟨m', g, r⟩ := d_over t ((seen.add 17).add 16)
    exact ⟨m', .cons (d_mark ..) (.cons (d_no _ (h 0 (Nat.le_refl _))) g), r⟩
  | j + 1, x, seen, h => by
    obtain ⟨m', g, r⟩ := d_all j (some (7 + (j + 1))) ((seen.add 17).add 16) (fun i hi => h i (by omega))
    exact ⟨m', (Goes.cons (d_mark t (j + 1) x seen) (.cons (d_no _ (h (j + 1) (Nat.le_refl _))) (.cons (d_back t j _) g))).le (by omega), r⟩

/-- «FLAGS (» stands at the head and nowhere else, then a body without a bracket -/
structure Flg (t : Array Nat) (b : Nat) : Prop where
  size : 7 + b ≤ t.size
  small : t.size ≤ 1000
  big : 8 ≤ t.size
  head : ∀ j, j < 7 → t.getD j 0 = C2.getD (11 + 2 * j + 1) 0
  open_ : ∀ j, 7 ≤ j → t.getD j 0 ≠ 40
  body : ∀ j, j < b → t.getD (7 + j) 0 ≠ 41
theorem first10 (t : Array Nat) : ∀ (k p : Nat), p + k = t.size → ∃ n, p ≤ n ∧ n ≤ t.size ∧ (∀ j, p ≤ j → j < n → t.getD j 0 ≠ 10) ∧ (n = t.size ∨ t.getD n 0 = 10)
  | 0, p, h => ⟨p, Nat.le_refl _, by omega, fun j h1 h2 => by omega, .inl (by omega)⟩
  | k + 1, p, h => by
    by_cases q : t.getD p 0 = 10
    · exact ⟨p, Nat.le_refl _, by omega, fun j h1 h2 => by omega, .inr q⟩
    · obtain ⟨n, h1, h2, h3, h4⟩ := first10 t k (p + 1) (by omega)
      refine ⟨n, by omega, h2, fun j a b => ?_, h4⟩
      by_cases e : j = p
      · rw [e]; exact q
      · exact h3 j (by omega) b
theorem match_head {t : Array Nat} {b : Nat} (F : Flg t b) (h2 : 7 + b = t.size ∨ t.getD (7 + b) 0 = 41) : ∃ seen, Goes (8 * t.size + 10) (forMatch C2 t 1 0 t.size false false) (D2 t b none seen) := by
  obtain ⟨n, _, hn, h3, h4⟩ := first10 t t.size 0 (by omega)
  obtain ⟨s1, g1⟩ := forMatch_begin F.big F.small hn (fun j hj => h3 j (Nat.zero_le _) hj) h4
  obtain ⟨s2, g2⟩ := back_all (t := t) n s1 (fun p h1 h2 => ⟨6, by decide, .inr (F.open_ (p + 6) (by omega))⟩)
  obtain ⟨s3, g3⟩ := try_ok (t := t) (k := 0) 7 0 s2 rfl (fun j _ hj => by rw [Nat.zero_add]; exact ⟨by have := F.big; omega, F.head j hj⟩)
  have g4 := Goes.cons (mid_mark t s3) (.one (mid_run (s3.add 17) F.small F.size F.body h2))
  exact ⟨_, (g1.trans (g2.trans (g3.trans g4))).le (by omega)⟩
theorem match_yes {t : Array Nat} {b : Nat} (F : Flg t b) (h1 : t.size = 7 + b + 1) (h2 : t.getD (7 + b) 0 = 41) :
    ∃ m', Goes (8 * t.size + 16) (forMatch C2 t 1 0 t.size false false) m' ∧ m'.outcome = some .matched ∧ m'.start = 0 ∧ m'.handed = t.size ∧ m'.marks = #[some 7, some (7 + b)] ∧ m'.lastmark = 1 ∧ m'.lastindex = 1 := by
  obtain ⟨s1, g1⟩ := match_head F (.inr h2)
  obtain ⟨m', g2, r⟩ := d_done t b ((s1.add 17).add 16)
  rw [h1]
  rw [h1] at g1
  exact ⟨m', g1.trans (.cons (d_mark ..) (.cons (d_yes _ (by omega) h2) g2)), r⟩
theorem match_no {t : Array Nat} {b : Nat} (F : Flg t b) (h1 : t.size = 7 + b) : ∃ m', Goes (11 * t.size + 20) (forMatch C2 t 1 0 t.size false false) m' ∧ m'.outcome = some .failed := by
  obtain ⟨s1, g1⟩ := match_head F (.inl h1.symm)
  obtain ⟨m', g2, r⟩ := d_all (t := t) b none s1 (fun i hi => by
    by_cases q : i = b
    · exact .inl (by omega)
    · exact .inr (F.body i (by omega)))
  exact ⟨m', (g1.trans g2).le (by omega), r⟩
end Mine
end
section
open PySem PySem.W PyProof.Rows PySem.Calls PySem.Spec Builtin
set_option Elab.async false
set_option maxRecDepth 100000
set_option maxHeartbeats 4000000
set_option pp.maxSteps 6000
namespace Mine
noncomputable abbrev octs (x : Str) : Array UInt8 := x.cps.map Nat.toUInt8
noncomputable def Asc (x : Str) : Prop := ∀ c ∈ x.cps, c < 128
theorem size_fits' {n : Nat} (h : n ≤ 100000) : n ≤ sizeLine := by rw [sizeLine_eq]; omega
section
variable {Mo : Model} {A : Around} {E : Value → Shared → Prop} {s : Shared}
theorem loop_two {S : Type} {F : Nat → S → Sem (ForInStep S)} {a b : S} {Q : S → Shared → Prop} (h1 : ∀ k (Q' : ForInStep S → Shared → Prop), Q' (.yield b) s → wpAny Mo A (F k a) Q' E s) (h2 : ∀ k (Q' : ForInStep S → Shared → Prop), Q' (.done b) s → wpAny Mo A (F k b) Q' E s)
    (h : Q b s) : ∀ l : List Nat, l ≠ [] → wpAny Mo A (forIn l a F) Q E s
  | [], hne => absurd rfl hne
  | [k], _ => by
    rw [List.forIn_cons]
    refine wpAny_bind (h1 _ _ ?_)
    dsimp only
    rw [List.forIn_nil]
    exact wpAny_pure h
  | k :: j :: l, _ => by
    rw [List.forIn_cons]
    refine wpAny_bind (h1 _ _ ?_)
    dsimp only
    rw [List.forIn_cons]
    refine wpAny_bind (h2 _ _ ?_)
    exact wpAny_pure h
theorem foldl_octs (l : List Nat) : ∀ (acc : Array UInt8), l.foldl (fun acc y => acc ++ [y.toUInt8].toArray) acc = acc ++ (l.map Nat.toUInt8).toArray := by
  induction l with
  | nil => intro acc; simp
  | cons y l ih => intro acc; rw [List.foldl_cons, ih]; simp
theorem enc_asc {id : String} {self : Value} {x : Str} {Q : Array UInt8 → Shared → Prop} (ha : Asc x) (hsz : x.cps.size ≤ 100000) (h : Q (octs x) s) : wpAny Mo A (_codecs.encodeNarrow id _codecs.asciiCodec none self x) Q E s := by
  unfold _codecs.encodeNarrow
  dsimp only
  rw [Std.Legacy.Range.forIn_eq_forIn_range']
  by_cases hz : x.cps.size = 0
  · have hl : ([:x.length] : Std.Legacy.Range).size = 0 := by
      show (x.cps.size - 0 + 1 - 1) / 1 = 0
      rw [hz]
    rw [hl]
    show wpAny _ _ (forIn ([] : List Nat) _ _ >>= _) _ _ _
    rw [List.forIn_nil]
    refine wpAny_bind (wpAny_pure (wpAny_pure ?_))
    have : octs x = #[] := by
      unfold octs
      have : x.cps = #[] := Array.eq_empty_of_size_eq_zero hz
      rw [this]; simp
    rw [this] at h
    exact h
  · refine wpAny_bind (loop_two (b := (x.cps.size, octs x, {})) ?_ ?_ (wpAny_pure h) _ ?_)
    · intro k Q' hq
      dsimp only
      rw [if_neg (by decide)]
      rw [Array.getElem?_eq_getElem (Nat.pos_of_ne_zero hz)]
      dsimp only
      have hb : ∀ c ∈ x.cps, _codecs.asciiCodec.bad c = false := fun c hc => by
        show decide (c ≥ 128) = false
        have := ha c hc
        simp; omega
      rw [if_pos (by rw [hb _ (Array.getElem_mem _)]; rfl)]
      have e0 : x.cps.extract 0 = x.cps := by simp
      have e1 : Array.findIdx? _codecs.asciiCodec.bad (x.cps.extract 0) = none := by
        rw [e0, Array.findIdx?_eq_none_iff]
        exact hb
      rw [e1, Option.getD_none, e0]
      have e2 : x.cps.extract 0 x.cps.size = x.cps := by simp
      rw [e2, Nat.zero_add]
      have e3 : Array.foldl (fun acc y => acc ++ (_codecs.asciiCodec.bytesOf y).toArray) #[] x.cps = octs x := by
        rw [← Array.foldl_toList]
        have := foldl_octs x.cps.toList #[]
        simp only [Array.empty_append] at this
        refine this.trans ?_
        apply Array.ext'
        simp [octs]
      rw [e3]
      exact wpAny_pure hq
    · intro k Q' hq
      dsimp only
      rw [if_neg (by rw [Array.size_map, sizeLine_eq]; omega), Array.getElem?_eq_none (Nat.le_refl _)]
      exact wpAny_pure hq
    · have hl : ([:x.length] : Std.Legacy.Range).size = x.cps.size := by
        show (x.cps.size - 0 + 1 - 1) / 1 = x.cps.size
        rw [Nat.div_one]; omega
      rw [hl]
      intro e
      have := congrArg List.length e
      rw [List.length_range'] at this
      exact hz this
theorem loop_dec {F : Nat → (Nat × Array Nat × _codecs.Faults) → Sem (ForInStep (Nat × Array Nat × _codecs.Faults))} {b : Array UInt8} {Q : (Nat × Array Nat × _codecs.Faults) → Shared → Prop} {st : _codecs.Faults}
    (h1 : ∀ k p out (Q' : ForInStep (Nat × Array Nat × _codecs.Faults) → Shared → Prop), p < b.size → out.size = p → Q' (.yield (p + 1, out ++ [(b.getD p 0).toNat].toArray, st)) s → wpAny Mo A (F k (p, out, st)) Q' E s)
    (h : Q (b.size, b.map (·.toNat), st) s) : ∀ (l : List Nat) (p : Nat) (out : Array Nat), out = (b.extract 0 p).map (·.toNat) → p + l.length = b.size → wpAny Mo A (forIn l (p, out, st) F) Q E s
  | [], p, out, ho, hp => by
    subst ho
    rw [List.forIn_nil]
    have : p = b.size := by simpa using hp
    rw [this]
    refine wpAny_pure ?_
    have : b.extract 0 b.size = b := by simp
    rw [this]; exact h
  | k :: l, p, out, ho, hp => by
    subst ho
    rw [List.forIn_cons]
    simp only [List.length_cons] at hp
    refine wpAny_bind (h1 _ _ _ _ (by omega) (by simp; omega) ?_)
    have e : Array.map (·.toNat) (b.extract 0 p) ++ [(b.getD p 0).toNat].toArray = (b.extract 0 (p + 1)).map (·.toNat) := by
      have hp' : p < b.size := by omega
      rw [Array.getD_eq_getD_getElem?, Array.getElem?_eq_getElem hp', Option.getD_some]
      apply Array.ext'
      rw [Array.toList_append, Array.toList_map, Array.toList_map, Array.toList_extract, Array.toList_extract, List.extract_eq_take_drop, List.extract_eq_take_drop]
      simp only [List.drop_zero, Nat.sub_zero]
      rw [List.take_succ_eq_append_getElem (by simpa using hp')]
      simp
    exact loop_dec h1 h l (p + 1) _ e (by omega)
theorem dec_asc {id : String} {b : Array UInt8} {Q : Array Nat × Nat → Shared → Prop} (ha : ∀ p, p < b.size → (b.getD p 0).toNat < 128) (hz : b.size ≤ 1000) (h : ∀ n, Q (b.map (·.toNat), n) s) : wpAny Mo A (_codecs.runDecoder id _codecs.asciiDecoder none true b 0 []) Q E s := by
  unfold _codecs.runDecoder
  dsimp only
  rw [Std.Legacy.Range.forIn_eq_forIn_range']
  refine wpAny_bind (loop_dec (b := b) (st := { held := [] }) ?_ (wpAny_pure (h _)) _ 0 #[] (by simp) ?_)
  · intro k p out Q' hp ho hq
    dsimp only
    rw [if_neg (by rw [ho, sizeLine_eq]; omega), if_neg (by omega)]
    have e : _codecs.asciiDecoder.find true b p = .text [(b.getD p 0).toNat] (p + 1) := by
      show (if (b.getD p 0).toNat < 128 then _ else _) = _
      rw [if_pos (ha p hp)]
      rfl
    rw [e]
    exact wpAny_pure hq
  · have hl : ([:b.size] : Std.Legacy.Range).size = b.size := by
      show (b.size - 0 + 1 - 1) / 1 = b.size
      rw [Nat.div_one]; omega
    rw [hl]
    simp
end
end Mine
end
section
open PySem PySem.W PyProof.Rows PySem.Calls PySem.Spec Builtin
set_option Elab.async false
set_option maxRecDepth 100000
set_option maxHeartbeats 4000000
set_option pp.maxSteps 6000
namespace Mine
section
variable {w : World} {A : Around} {E : Value → Shared → Prop} {s : Shared}
theorem enc_road {id : String} {self : Value} {x : Str} : _codecs.encodeRoad id self x (PySem.Str.ofString "ascii") none = (_codecs.encodeNarrow id _codecs.asciiCodec none self x >>= fun b => mkBytes b) := by kernel_rfl
theorem enc_entry {x : Str} {t u : Tok} : «str.encode» ⟨[.str x t, .str (PySem.Str.ofString "ascii") u], []⟩ = (_codecs.encodeRoad "str.encode" (.str x t) x (PySem.Str.ofString "ascii") none >>= fun v => ret v) := by kernel_rfl
theorem c_encode {x : Str} {t u : Tok} {Q : Value → Shared → Prop} (ha : Asc x) (hz : x.cps.size ≤ 100000) (h : ∀ t', Q (.bytes (octs x) t') { s with toks := s.toks + 1 }) :
    wpAny (model PP w) A (call (.builtin "str.encode") [.str x t, .str (PySem.Str.ofString "ascii") u]) Q E s := by
  refine wpAny_call_entry F.slot_str_encode (typeIs_str _ _ _) F.entry_str_encode ?_ (F.args_str_encode_2 _ _)
  rw [enc_entry, enc_road]
  refine wpAny_bind (wpAny_bind (enc_asc ha hz ?_))
  refine wpAny_mkBytes (wpAny_pure ⟨_, rfl, h _⟩) ?_
  rw [Array.size_map]
  exact size_fits' hz
theorem dec_road {id : String} {b : Array UInt8} : _codecs.decodeRoad id b (PySem.Str.ofString "ascii") none [] = (_codecs.runDecoder id _codecs.asciiDecoder none true b 0 [] >>= fun r => mkStr ⟨r.1⟩) := by kernel_rfl
theorem dec_entry {c : UInt8} {cs : List UInt8} {t u : Tok} : «bytes.decode» ⟨[.bytes (c :: cs).toArray t, .str (PySem.Str.ofString "ascii") u], []⟩ = (mkStr (PySem.Str.ofString "utf-8") >>= fun _ => mkStr (PySem.Str.ofString "ascii") >>= fun e => mkStr (PySem.Str.ofString "bytes.decode") >>= fun d =>
    call (.builtin "_codecs.decode.text") [.bytes (c :: cs).toArray t, e, .none, d] >>= fun v => ret v) := by kernel_rfl
theorem args_dec2 (a b : Value) : argsOk "bytes.decode" ⟨[a, b], []⟩ := by unfold argsOk; kernel_rfl
theorem c_decode {x : Str} {t u : Tok} {Q : Value → Shared → Prop} (ha : Asc x) (hn : x.cps ≠ #[]) (hz : x.cps.size ≤ 1000) (h : ∀ t' k, s.toks < k → Q (.str x t') { s with toks := k }) :
    wpAny (model PP w) A (call (.builtin "bytes.decode") [.bytes (octs x) t, .str (PySem.Str.ofString "ascii") u]) Q E s := by
  refine wpAny_call_entry FB.slot_bytes_decode (typeIs_bytes _ _ _) FB.entry_bytes_decode ?_ (args_dec2 _ _)
  obtain ⟨c, cs, e⟩ : ∃ c cs, octs x = (c :: cs).toArray := by
    have hs : (octs x).toList ≠ [] := by
      intro q
      apply hn
      have := congrArg List.length q
      simp at this
      exact this
    obtain ⟨c, cs, q⟩ := List.exists_cons_of_ne_nil hs
    exact ⟨c, cs, by rw [← q]⟩
  rw [e, dec_entry, ← e]
  refine wpAny_bind (wpAny_mkStr ?_ (by decide))
  refine wpAny_bind (wpAny_mkStr ?_ (by decide))
  refine wpAny_bind (wpAny_mkStr ?_ (by decide))
  refine wpAny_bind (call_function_entry KBd.kind_text KBd.plain_text KBd.entry_text (KBd.args_text _ _ _ _) ?_)
  show wpAny _ _ (Bytes.bytesLike _ (.bytes (octs x) t) >>= fun r => _) _ _ _
  refine wpAny_bind (wpAny_of_eq KBd.like_eq ?_)
  refine wpAny_bind (wpAny_of_eq KBd.held_eq ?_)
  show wpAny _ _ (_codecs.decodeRoad _ (octs x) (PySem.Str.ofString "ascii") none [] >>= fun v => _) _ _ _
  rw [dec_road]
  have back : ∀ c, c ∈ x.cps → (c.toUInt8).toNat = c := fun c hc => by
    have := ha c hc
    simp [Nat.toUInt8]
    omega
  have em : (octs x).map (·.toNat) = x.cps := by
    unfold octs
    rw [Array.map_map]
    have : ∀ l : List Nat, (∀ c ∈ l, (c.toUInt8).toNat = c) → l.map ((fun b : UInt8 => b.toNat) ∘ Nat.toUInt8) = l := by
      intro l hl
      induction l with
      | nil => rfl
      | cons c l ih => rw [List.map_cons, ih fun c' h' => hl c' (List.mem_cons_of_mem _ h')]; show (c.toUInt8).toNat :: l = c :: l; rw [hl c List.mem_cons_self]
    apply Array.ext'
    rw [Array.toList_map]
    exact this _ fun c hc => back c (by simpa using hc)
  refine wpAny_bind (wpAny_bind (dec_asc (fun p hp => ?_) (by rw [Array.size_map]; exact hz) fun n => ?_))
  · rw [Array.getD_eq_getD_getElem?, Array.getElem?_eq_getElem hp, Option.getD_some]
    rw [Array.size_map] at hp
    rw [Array.getElem_map, back _ (Array.getElem_mem _)]
    exact ha _ (Array.getElem_mem _)
  · dsimp only
    rw [em]
    refine wpAny_mkStr (wpAny_pure ⟨_, rfl, ?_⟩) (size_fits' (by show x.cps.size ≤ _; omega))
    refine wpAny_pure ⟨_, rfl, h _ _ ?_⟩
    dsimp only
    omega
theorem args_bsplit (a : Value) : argsOk "bytes.split" ⟨[a], []⟩ := by unfold argsOk; kernel_rfl
theorem slot_bsplit : Slot "bytes" "split" "bytes.split" := .of (owner := "bytes") (n := "split") (by rw [typeLookup_type, builtinLookup_eq_fast]; kernel_rfl) (by decide +kernel) (by decide +kernel) (by decide +kernel)
  (by first | exact .inl (by decide +kernel) | exact .inr (by decide +kernel)) (by rw [isSubtype_type]; kernel_rfl)
theorem type_bsplit : typeOf (.builtin "bytes.split") = pure (.type "method_descriptor") := by show builtinType _ = _; rw [builtinType_eq_fast]; kernel_rfl
theorem entry_bsplit : entryFor table "bytes.split" = some Builtin.«bytes.split» := entryFor_of_tree (by kernel_rfl)

inductive BysAre : List Value → List (Array UInt8) → Prop
  | nil : BysAre [] []
  | cons (b : Array UInt8) (t : Tok) {vs bs} : BysAre vs bs → BysAre (.bytes b t :: vs) (b :: bs)
theorem bysAre_len : ∀ {vs : List Value} {bs}, BysAre vs bs → vs.length = bs.length
  | _, _, .nil => rfl
  | _, _, .cons _ _ r => by simp [bysAre_len r]
/-- the pieces between white signs -/
noncomputable abbrev wsCut (b : Array UInt8) : List (Array UInt8) := (Bytes.words (b.size + 1) (b.size + 1) b.toList).map (·.toArray)
theorem mk_words : ∀ (ws : List (List UInt8)) (s : Shared) (Q : List Value → Shared → Prop), (∀ x ∈ ws, x.length ≤ 100000) → (∀ vs k, BysAre vs (ws.map (·.toArray)) → Q vs { s with toks := k }) → wpAny (model PP w) A (ws.mapM fun x => Bytes.Kind.new .bytes x.toArray) Q E s
  | [], s, Q, _, h => by
    rw [List.mapM_nil]
    exact wpAny_pure (h [] s.toks .nil)
  | x :: ws, s, Q, hz, h => by
    rw [List.mapM_cons]
    refine wpAny_bind ?_
    show wpAny _ _ (mkBytes x.toArray) _ _ _
    refine wpAny_mkBytes ?_ (size_fits' (by simpa using hz x List.mem_cons_self))
    refine wpAny_bind (mk_words ws _ _ (fun y hy => hz y (List.mem_cons_of_mem _ hy)) fun vs k hv => ?_)
    exact wpAny_pure (h _ _ (.cons _ _ hv))
theorem words_fuel : ∀ (f n : Nat) (t : List UInt8), t.length < f → (Bytes.words f n t).length ≤ t.length ∧ ∀ x ∈ Bytes.words f n t, x.length ≤ t.length
  | 0, n, t, h => by omega
  | f + 1, n, t, h => by
    unfold Bytes.words
    have h1 : (t.dropWhile Bytes.isSpace).length ≤ t.length := (List.dropWhile_sublist _).length_le
    split
    · exact ⟨Nat.zero_le _, fun x hx => by simp at hx⟩
    · rename_i rest hne
      split
      · refine ⟨?_, fun x hx => ?_⟩
        · have : (t.dropWhile Bytes.isSpace).length ≠ 0 := fun q => hne (List.eq_nil_of_length_eq_zero q)
          simp only [List.length_singleton]
          omega
        · simp only [List.mem_singleton] at hx
          rw [hx]; exact h1
      · have key : ((t.dropWhile Bytes.isSpace).dropWhile (!Bytes.isSpace ·)).length < (t.dropWhile Bytes.isSpace).length := by
          cases e : t.dropWhile Bytes.isSpace with
          | nil => exact absurd e hne
          | cons c r =>
            have hc : Bytes.isSpace c = false := by
              have := List.head?_dropWhile_not Bytes.isSpace t
              rw [e] at this
              simpa using this
            rw [List.dropWhile_cons]
            simp only [hc, Bool.not_false, if_true, List.length_cons]
            exact Nat.lt_succ_of_le (List.dropWhile_sublist _).length_le
        obtain ⟨a, b⟩ := words_fuel f (n - 1) ((t.dropWhile Bytes.isSpace).dropWhile (!Bytes.isSpace ·)) (by omega)
        refine ⟨by simp only [List.length_cons]; omega, fun x hx => ?_⟩
        rcases List.mem_cons.mp hx with rfl | hx
        · exact Nat.le_trans (List.takeWhile_sublist _).length_le h1
        · exact Nat.le_trans (b x hx) (by omega)
theorem c_bsplit {b : Array UInt8} {t : Tok} {Q : Value → Shared → Prop} (hz : b.size ≤ 1000) (h : ∀ vs k, BysAre vs (wsCut b) → Q (.ref s.heap.objs.size) { s with heap := s.heap.push (listO vs 0), toks := k }) :
    wpAny (model PP w) A (call (.builtin "bytes.split") [.bytes b t]) Q E s := by
  refine wpAny_call_entry slot_bsplit (typeIs_bytes _ _ _) entry_bsplit ?_ (args_bsplit _)
  unfold Builtin.«bytes.split» Bytes.splitM
  dsimp only
  refine wpAny_bind (wpAny_of_eq (a := [none, none]) (by kernel_rfl) ?_)
  dsimp only
  refine wpAny_bind (wpAny_pure ?_)
  refine wpAny_bind (wpAny_pure (a := b) ?_)
  refine wpAny_bind (wpAny_rule ?_)
  have hw := words_fuel (b.size + 1) (b.size + 1) b.toList (by simp)
  have e1 : (if (-1 : Int) < 0 then b.size + 1 else (-1 : Int).toNat) = b.size + 1 := by rw [if_pos (by decide)]
  rw [e1]
  split
  · rename_i hc
    simp only [Bool.and_eq_true, Bool.not_eq_true'] at hc
    have hne : b.toList ≠ [] := fun q => by
      have : b = #[] := Array.toList_eq_nil_iff.mp q
      rw [this] at hc
      exact absurd hc.1.2 (by decide)
    have hns : ∀ c ∈ b.toList, Bytes.isSpace c = false := fun c hc' => by
      have h2 := hc.2
      rw [Array.any_eq_false] at h2
      obtain ⟨i, hi, rfl⟩ := List.mem_iff_getElem.mp hc'
      have := h2 i (by simpa using hi)
      simpa using this
    have ew : wsCut b = [b] := by
      unfold wsCut Bytes.words
      have d1 : b.toList.dropWhile Bytes.isSpace = b.toList := by
        cases q : b.toList with
        | nil => rfl
        | cons c r => rw [List.dropWhile_cons, hns c (by rw [q]; exact List.mem_cons_self)]; rfl
      have td : ∀ l : List UInt8, (∀ c ∈ l, Bytes.isSpace c = false) → l.takeWhile (!Bytes.isSpace ·) = l ∧ l.dropWhile (!Bytes.isSpace ·) = [] := by
        intro l
        induction l with
        | nil => intro _; exact ⟨rfl, rfl⟩
        | cons c r ih =>
          intro hl
          obtain ⟨a, b⟩ := ih fun c' h' => hl c' (List.mem_cons_of_mem _ h')
          rw [List.takeWhile_cons, List.dropWhile_cons, hl c List.mem_cons_self]
          simp only [Bool.not_false, if_true]
          rw [a]
          exact ⟨rfl, b⟩
      obtain ⟨t1, t2⟩ := td _ hns
      rw [d1]
      split
      · rename_i q; exact absurd q hne
      · rw [if_neg (by simp), t1, t2]
        have : Bytes.words b.size (b.size + 1 - 1) [] = [] := by
          cases b.size with
          | zero => rfl
          | succ n => rfl
        rw [this]
        simp
    refine wpAny_bind (wpAny_pure (a := Value.bytes b t) ?_)
    refine wpAny_bind (wpAny_newList ?_ (by simp [sizeLine_eq]))
    refine wpAny_pure ⟨_, rfl, ?_⟩
    exact h [Value.bytes b t] _ (by rw [ew]; exact .cons _ _ .nil)
  · rw [if_neg (by decide)]
    simp only [Array.length_toList] at hw
    refine wpAny_bind (mk_words _ _ _ (fun x hx => Nat.le_trans (hw.2 x hx) (by omega)) fun vs k hv => ?_)
    have hl := bysAre_len hv
    rw [List.length_map] at hl
    refine wpAny_bind (wpAny_newList ?_ (by rw [hl]; exact size_fits' (by omega)))
    exact wpAny_pure ⟨_, rfl, h vs k hv⟩
end
end Mine
end
section
open PySem PySem.W PyProof.Rows PySem.Calls PySem.Spec Builtin
open PySem.Builtin.Re
set_option Elab.async false
set_option maxRecDepth 100000
set_option maxHeartbeats 4000000
set_option pp.maxSteps 6000
namespace Mine
theorem fillB3 (w : World) (h₀ : Heap) : (hd.heap_1 w.params).In h₀ → PySem.Challenge.rw_zd0011_01.Holds → True := by k_fill; intros; trivial
theorem slot_rgroup : Slot "re.Match" "group" "re.Match.group" := .of (owner := "re.Match") (n := "group") (by rw [typeLookup_type, builtinLookup_eq_fast]; kernel_rfl) (by decide +kernel) (by decide +kernel) (by decide +kernel)
  (by first | exact .inl (by decide +kernel) | exact .inr (by decide +kernel)) (by rw [isSubtype_type]; kernel_rfl)
theorem type_rgroup : typeOf (.builtin "re.Match.group") = pure (.type "method_descriptor") := by show builtinType _ = _; rw [builtinType_eq_fast]; kernel_rfl
theorem entry_rgroup : entryFor table "re.Match.group" = some Builtin.«re.Match.group» := entryFor_of_tree (by kernel_rfl)
theorem args_rgroup (a b : Value) : argsOk "re.Match.group" ⟨[a, b], []⟩ := by unfold argsOk; kernel_rfl
theorem look_mbool : typeLookup (.type "re.Match") "__bool__" = pure none := by rw [typeLookup_type, builtinLookup_eq_fast]; kernel_rfl
theorem look_mlen : typeLookup (.type "re.Match") "__len__" = pure none := by rw [typeLookup_type, builtinLookup_eq_fast]; kernel_rfl
theorem plainAttrs_rm : PlainAttrs "re.Match" :=
  ⟨⟨"object.__getattribute__", by rw [typeLookup_type, builtinLookup_eq_fast]; kernel_rfl, by decide +kernel⟩, by rw [typeLookup_type, builtinLookup_eq_fast]; kernel_rfl⟩
section
variable {w : World} {mg mb : Str → Option Value} {A : Around} {s : Shared} {h₀ h : Heap} {L K : Addr} {m : Str → Option Value} {l la r rest news : List (Addr × Obj)} {E : Value → Shared → Prop}
noncomputable abbrev nums (b : Array UInt8) : Array Nat := b.map (·.toNat)
theorem C2_of : Array.map (fun x : Int => x.toNat) (Array.map reRawOf #[.int 14 0, .int 4 0, .int 0 0, .int 8 0, .int 4294967295 0, .int 24 0, .int 5 0, .int 0 0, .int 4294967295 0, .int 2 0, .int 1 0, .int 16 0, .int 70 0, .int 16 0, .int 76 0, .int 16 0, .int 65 0, .int 16 0, .int 71 0, .int 16 0, .int 83 0, .int 16 0, .int 32 0, .int 16 0, .int 40 0, .int 17 0, .int 0 0, .int 24 0, .int 6 0, .int 0 0, .int 4294967295 0, .int 20 0, .int 41 0, .int 1 0, .int 17 0, .int 1 0, .int 16 0, .int 41 0, .int 1 0]) = C2 := by simp [reRawOf]
theorem notStand (b : Array UInt8) (t : Tok) : notAStandIn (.bytes b t) = pure () := rfl
noncomputable abbrev spanO (b : Nat) (n : Nat) : Obj := tupObj [.int 0 0, .int n 0, .int 7 0, .int b 0]
noncomputable abbrev matchO (v : Value) (n a : Nat) : Obj := { cls := .type "re.Match", data := .fields #[v, .ref 43, .int 0 0, .int n 0, .int 1 0, .ref a] }

theorem target_match {b : Array UInt8} {t : Tok} {Q : ReTarget → Shared → Prop} (X : (hd.heap_1 w.params).In s.heap) (hz : b.size ≤ 1000)
    (h : Q { pattern := .ref 43, string := .bytes b t, code := C2, text := nums b, kind := 1, groups := 1, pos := 0, lim := (nums b).size } s) :
    wpAny (model PP w) A (reTarget "re.Pattern.match" "match" ⟨[.ref 43, .bytes b t], []⟩) Q E s := by
  unfold reTarget
  show wpAny _ _ (reNamed "re.Pattern.match" "match" ["string", "pos", "endpos"] 1 [.bytes b t] [] >>= _) _ _ _
  refine wpAny_bind (wpAny_of_eq (a := [some (.bytes b t), none, none]) (by kernel_rfl) ?_)
  dsimp only
  refine wpAny_bind (wpAny_pure ?_)
  refine wpAny_bind (wpAny_pure ?_)
  have h43 := X 43 _ (by k_is)
  have h42 := X 42 _ (by k_is)
  refine wpAny_bind (wpAny_fieldsOf h43 rfl ?_)
  refine wpAny_bind ?_
  unfold reTextOf
  refine wpAny_bind (wpAny_of_eq (a := none) rfl ?_)
  dsimp only
  refine wpAny_bind (wpAny_of_eq KBy.quiet_eq ?_)
  refine wpAny_pure ?_
  dsimp only
  rw [if_neg (by decide), if_neg (by decide)]
  refine wpAny_bind ?_
  show wpAny _ _ (do if !(← isInstance (.bytes b t) (.type "bytes")) then noCollectionInside _) _ _ _
  refine wpAny_bind (wpAny_of_eq KBy.isInstance_eq ?_)
  refine wpAny_pure ?_
  refine wpAny_bind ?_
  show wpAny _ _ (reRawItems (.ref 42)) _ _ _
  unfold reRawItems
  refine wpAny_bind (wpAny_seqItems h42 rfl (wpAny_pure ?_))
  rw [Option.getD_some, C2_of]
  refine wpAny_pure ?_
  have e1 : min (0 : Int).toNat (nums b).size = 0 := by simp
  have e2 : min ((2 : Int) ^ 63 - 1).toNat (nums b).size = (nums b).size := by
    have : (nums b).size ≤ 1000 := by rw [Array.size_map]; exact hz
    have e : ((2 : Int) ^ 63 - 1).toNat = 9223372036854775807 := by decide
    rw [e]
    omega
  rw [e1, e2]
  exact h

theorem match_ok {b : Array UInt8} {t : Tok} {n : Nat} {Q : PySem.Fin → Shared → Prop} (X : (hd.heap_1 w.params).In s.heap) (F : Flg (nums b) n) (h1 : (nums b).size = 7 + n + 1) (h2 : (nums b).getD (7 + n) 0 = 41)
    (h : Q (.done (.ret (.ref (s.heap.objs.size + 1)))) { s with heap := (s.heap.push (spanO (7 + n) (nums b).size)).push (matchO (.bytes b t) (nums b).size s.heap.objs.size) }) :
    wpAny (model PP w) A (Builtin.«re.Pattern.match» ⟨[.ref 43, .bytes b t], []⟩) Q E s := by
  obtain ⟨m', g, r1, r2, r3, r4, r5, r6⟩ := match_yes F h1 h2
  have hz : b.size ≤ 1000 := by have := F.small; rwa [Array.size_map] at this
  unfold Builtin.«re.Pattern.match»
  refine wpAny_bind (target_match X hz ?_)
  dsimp only
  unfold reAnswer
  refine wpAny_bind (runEnd (by have := F.small; omega) g (some m') (.inl ⟨r1, rfl⟩) ?_)
  dsimp only
  refine wpAny_bind ?_
  unfold reNewMatch
  rw [r2, r3, r4, r5, r6]
  show wpAny _ _ (if (decide (((1 : Nat) : Int) ≤ 1) && decide (7 + n < 7) || false) = true then _ else (newTuple [rawInt (0 : Nat), rawInt (nums b).size, rawInt (7 : Nat), rawInt (7 + n : Nat)] >>= fun tup => newFields "re.Match" [.bytes b t, .ref 43, rawInt (0 : Nat), rawInt (nums b).size, rawInt 1, tup])) _ _ _
  rw [if_neg (by simp)]
  refine wpAny_bind (wpAny_newTuple ?_ (by show 4 ≤ sizeLine; rw [sizeLine_eq]; omega))
  refine wpAny_newObj_type ?_ (by size_fits)
  refine wpAny_pure ?_
  dsimp only
  rw [Heap.size_push]
  exact h
theorem match_none {b : Array UInt8} {t : Tok} {n : Nat} {Q : PySem.Fin → Shared → Prop} (X : (hd.heap_1 w.params).In s.heap) (F : Flg (nums b) n) (h1 : (nums b).size = 7 + n) (h : Q (.done (.ret .none)) s) :
    wpAny (model PP w) A (Builtin.«re.Pattern.match» ⟨[.ref 43, .bytes b t], []⟩) Q E s := by
  obtain ⟨m', g, r1⟩ := match_no F h1
  have hz : b.size ≤ 1000 := by have := F.small; rwa [Array.size_map] at this
  unfold Builtin.«re.Pattern.match»
  refine wpAny_bind (target_match X hz ?_)
  dsimp only
  unfold reAnswer
  refine wpAny_bind (runEnd (by have := F.small; omega) g none (.inr ⟨r1, rfl⟩) ?_)
  exact wpAny_pure h

theorem truthy_match {a : Addr} {o : Obj} {Q : Bool → Shared → Prop} (ho : s.heap.get? a = some o) (hc : o.cls = .type "re.Match") (h : Q true s) : wpAny (model PP w) A (truthy (.ref a)) Q E s := by
  have hT : s.TypeIs (.ref a) "re.Match" := ⟨o, ho, hc⟩
  unfold truthy callSpecial?
  refine wpAny_bind (wpAny_bind (wpAny_specialOf hT look_mbool (wpAny_pure ?_)))
  dsimp only
  refine wpAny_bind (wpAny_specialOf hT look_mlen ?_)
  rw [if_pos (by decide)]
  exact wpAny_pure h

theorem look_sindex : typeLookup (.type "str") "__index__" = pure none := by rw [typeLookup_type, builtinLookup_eq_fast]; kernel_rfl
theorem c_group {b : Array UInt8} {t tk : Tok} {a x : Addr} {n : Nat} {Q : Value → Shared → Prop} (X : (hd.heap_1 w.params).In s.heap) (hx : s.heap.get? x = some (matchO (.bytes b t) b.size a)) (ha : s.heap.get? a = some (spanO n b.size)) (hz : b.size ≤ 1000)
    (h : ∀ t' k, Q (.bytes (b.extract 7 n) t') { s with toks := k }) : wpAny (model PP w) A (call (.builtin "re.Match.group") [.ref x, .str (Str.ofString "flags") tk]) Q E s := by
  have hT : s.TypeIs (.ref x) "re.Match" := ⟨_, hx, rfl⟩
  refine wpAny_call_entry slot_rgroup hT entry_rgroup ?_ (args_rgroup _ _)
  unfold Builtin.«re.Match.group»
  refine wpAny_bind (wpAny_of_eq (a := ()) (by kernel_rfl) ?_)
  dsimp only
  refine wpAny_bind ?_
  unfold reFound
  refine wpAny_bind (wpAny_fieldsOf hx rfl ?_)
  refine wpAny_bind ?_
  show wpAny _ _ (reRawItems (.ref a)) _ _ _
  unfold reRawItems
  refine wpAny_bind (wpAny_seqItems ha rfl (wpAny_pure ?_))
  have es : Array.map reRawOf ((some #[Value.int 0 0, .int b.size 0, .int 7 0, .int n 0]).getD #[]) = #[(0 : Int), b.size, 7, n] := by simp [reRawOf]
  rw [es]
  refine wpAny_pure ?_
  refine wpAny_bind ?_
  unfold reGroupNumber
  refine wpAny_bind ?_
  refine wpAny_bind ?_
  refine wpAny_of_eq (a := ()) rfl ?_
  refine wpAny_pure ?_
  dsimp only
  rw [if_neg (by decide)]
  refine wpAny_bind (wpAny_specialOf (typeIs_str _ _ _) look_sindex ?_)
  rw [if_neg (by decide)]
  have h43 := X 43 _ (by k_is)
  have h40 := X 40 _ (by k_is)
  refine wpAny_bind (wpAny_fieldsOf h43 rfl ?_)
  show wpAny _ _ (dictGet 40 (.str (Str.ofString "flags") tk) >>= _) _ _ _
  refine wpAny_bind ?_
  unfold dictGet
  try with_reducible refine wpAny_holding ?_
  refine wpAny_bind (wpAny_pyHash_str (wpAny_bind (KTD.kt_dictFind_strs (s := { s with toks := s.toks + 1 }) h40 rfl (by simp [isExactStrKey]) ?_)))
  have ef : Array.findIdx? (fun e : DictEntry => e.key.isStr (Str.ofString "flags")) #[⟨PyData.keyHash w.params (Str.ofString "flags"), .str (Str.ofString "flags") 334, .int 1 335⟩] = some 0 := by
    rw [List.findIdx?_toArray, List.findIdx?_cons]
    rw [if_pos (show ((Value.str (Str.ofString "flags") 334).isStr (Str.ofString "flags")) = true by decide +kernel)]
  rw [ef]
  dsimp only
  refine wpAny_bind (wpAny_dictEntries (s := { s with toks := s.toks + 1 }) h40 rfl (wpAny_pure ?_))
  show wpAny _ _ (asInt? (.int 1 335) >>= _) _ _ _
  refine wpAny_bind (wpAny_pure ?_)
  refine wpAny_bind (wpAny_pure ?_)
  show wpAny _ _ (if (decide ((1 : Int) < 0) || decide (2 * (1 : Int) ≥ ((4 : Nat) : Int))) = true then _ else pure 1) _ _ _
  rw [if_neg (show ¬ ((decide ((1 : Int) < 0) || decide (2 * (1 : Int) ≥ ((4 : Nat) : Int))) = true) by decide)]
  refine wpAny_pure ?_
  refine wpAny_bind ?_
  unfold reGroupText
  show wpAny _ _ (if (decide ((7 : Int) < 0) || decide ((n : Int) < 0)) = true then _ else _) _ _ _
  rw [if_neg (by simp)]
  refine wpAny_bind ?_
  unfold reTextOf
  refine wpAny_bind (wpAny_of_eq (a := none) rfl ?_)
  dsimp only
  refine wpAny_bind (wpAny_of_eq KBy.quiet_eq ?_)
  refine wpAny_pure ?_
  show wpAny _ _ (mkBytes (((nums b).extract 7 n).map (·.toUInt8))) _ _ _
  have eb : ((nums b).extract 7 n).map (·.toUInt8) = b.extract 7 n := by
    unfold nums
    apply Array.ext'
    simp only [Array.toList_map, Array.toList_extract, List.extract_eq_take_drop]
    rw [← List.map_drop, ← List.map_take, List.map_map]
    have : ∀ l : List UInt8, l.map ((fun n : Nat => n.toUInt8) ∘ fun b : UInt8 => b.toNat) = l := by
      intro l
      induction l with
      | nil => rfl
      | cons c l ih => rw [List.map_cons, ih]; simp
    exact this _
  rw [eb]
  refine wpAny_mkBytes ?_ (size_fits' (by rw [Array.size_extract]; omega))
  exact wpAny_pure ⟨_, rfl, h _ _⟩
end
end Mine
end
section
open PySem PySem.W PyProof.Rows PySem.Calls PySem.Spec Builtin
set_option Elab.async false
set_option maxRecDepth 100000
set_option maxHeartbeats 4000000
set_option pp.maxSteps 3000
namespace Mine
theorem fillB4 (w : World) (h₀ : Heap) : (hd.heap_1 w.params).In h₀ → PySem.Challenge.rw_zd0011_01.Holds → True := by k_fill; intros; trivial
section
variable {w : World} {mg mb : Str → Option Value} {A : Around} {s : Shared} {h₀ h : Heap} {L K : Addr} {m : Str → Option Value} {l la r rest news : List (Addr × Obj)} {Q E : Value → Shared → Prop}

theorem c_parse_yes {b : Array UInt8} {t : Tok} {n : Nat} (F : Flg (nums b) n) (h1 : (nums b).size = 7 + n + 1) (h2 : (nums b).getD (7 + n) 0 = 41)
    (R : Rm A 4) (W : Wd w mg mb h₀) (G : Lg h₀ L m s.heap ([] ++ rest))
    (h : ∀ s' a vs, BysAre vs (wsCut (b.extract 7 (7 + n))) → Bk s h₀ L m [] rest s' [(a, tupObj vs)] → Q (.ref a) s') : wpAny (model PP w) A (call (.ref 50) [.bytes b t]) Q E s := by
  obtain ⟨hh, gg, dd, tk0, oo⟩ := s
  dsimp only at G h
  have hb : b.size = 7 + n + 1 := by rw [← h1, Array.size_map]
  have hz : b.size ≤ 1000 := by have := F.small; rwa [Array.size_map] at this
  refine call_def (cl := []) (core := []) (binds := [("resp", .bytes b t)]) W G (by k_is) rfl (by k_is) R.room (.of_eq rfl) (by rfl) ?_ (by decide)
  intro g L' h₁ W' kp G' back
  refine wpAny_execs_cons ?_
  refine wpAny_Assign_Name ?_
  refine MethodCall_ ?_
  refine nameX_K G'.fr W'.X W'.T (by k_is) ?_
  have X1 := W'.X.keeps G'.fr.keep
  refine getMethod_builtin (T := "re.Pattern") ⟨_, X1 43 _ (by k_is), rfl⟩ plainAttrs_re slot_rmatch type_rmatch (fun a e => by cases e; exact ⟨_, X1 43 _ (by k_is), rfl⟩) ?_
  refine callWith_method1 ?_
  refine spliced_more (nameX_L G'.fr rfl (spliced_none ?_))
  refine wpAny_call_entry slot_rmatch ⟨_, X1 43 _ (by k_is), rfl⟩ entry_rmatch ?_ (args_rmatch _ _)
  refine match_ok (s := ⟨h₁, _, _, _, _⟩) X1 F h1 h2 ⟨_, rfl, ?_⟩
  have G2 := (G'.app.allocR (spanO (7 + n) (nums b).size)).allocR (matchO (.bytes b t) (nums b).size h₁.objs.size)
  rw [Heap.size_push] at G2
  refine storeL (s := ⟨_, _, _, _, _⟩) G2 fun h3 G3 kt3 ko3 => ?_
  dsimp only
  refine wpAny_execs_cons ?_
  refine wpAny_If ?_
  refine isTrue_not ?_
  refine isTrue_plain ?_
  refine nameX_L (s := ⟨h3, _, _, _, _⟩) G3.fr rfl ?_
  have e1 : h3.get? (h₁.objs.size + 1) = some (matchO (.bytes b t) b.size h₁.objs.size) := by
    have := G3.getR (i := 1) rfl
    rwa [Array.size_map] at this
  have e2 : h3.get? h₁.objs.size = some (spanO (7 + n) b.size) := by
    have := G3.getR (i := 0) rfl
    rwa [Array.size_map] at this
  refine truthy_match (s := ⟨h3, _, _, _, _⟩) e1 rfl ?_
  rw [if_neg (by decide)]
  refine wpAny_execs_nil ?_
  dsimp only
  refine wpAny_execs_cons ?_
  refine wpAny_Return_some ?_
  refine Call_ ?_
  refine nameX_B (s := ⟨h3, _, _, _, _⟩) G3.fr W'.X W'.T (by k_is) (by boot_by_name) (by decide) ?_
  refine PyProof.Rows.callWith_type1 ?_
  refine spliced_more ?_
  refine MethodCall_ ?_
  refine MethodCall_ ?_
  refine nameX_L (s := ⟨h3, _, _, _, _⟩) G3.fr rfl ?_
  refine getMethod_builtin (s := ⟨h3, _, _, _, _⟩) (T := "re.Match") ⟨_, e1, rfl⟩ plainAttrs_rm slot_rgroup type_rgroup (fun a e => by cases e; exact ⟨_, e1, rfl⟩) ?_
  refine callWith_method1 ?_
  refine spliced_more (Calls.Constant_str (spliced_none ?_))
  refine c_group (s := ⟨h3, _, _, _, _⟩) (W'.X.keeps G3.fr.keep) e1 e2 hz fun t' k => ?_
  dsimp only
  refine getMethod_builtin (T := "bytes") (typeIs_bytes _ _ _) FB.plainAttrs_bytes slot_bsplit type_bsplit KBd.noRef ?_
  refine callWith_method0 ?_
  refine c_bsplit (s := ⟨h3, _, _, _, _⟩) (by rw [Array.size_extract]; omega) fun vs k2 hv => ?_
  dsimp only
  refine spliced_none ?_
  have G4 := G3.allocR (listO vs 0)
  have hvl : vs.length ≤ 1000 := by
    rw [bysAre_len hv, List.length_map]
    have := (words_fuel ((b.extract 7 (7 + n)).size + 1) ((b.extract 7 (7 + n)).size + 1) (b.extract 7 (7 + n)).toList (by rw [Array.length_toList]; exact Nat.lt_succ_self _)).1
    simp only [Array.length_toList, Array.size_extract] at this
    simp only [Array.size_extract]
    omega
  refine call_tuple_list (s := ⟨_, _, _, _, _⟩) (items := vs.toArray) ⟨_, G4.getR (i := 2) rfl, rfl, _, rfl⟩ (fun h5 k5 => ?_) (by rw [List.size_toArray]; exact size_fits' (by omega))
  have G5 := (G4.ext k5).allocR (tupObj vs)
  have G6 : Lg g L' _ _ ([(h5.objs.size, tupObj vs)]) := G5.drop (.cons _ (.cons _ (.cons _ (.refl _))))
  exact h _ _ vs hv (back ⟨_, _, _, _, _⟩ _ _ G6 rfl id)

theorem c_parse_no {b : Array UInt8} {t : Tok} {n : Nat} (F : Flg (nums b) n) (h1 : (nums b).size = 7 + n)
    (R : Rm A 4) (W : Wd w mg mb h₀) (G : Lg h₀ L m s.heap ([] ++ rest))
    (h : ∀ s' a, Bk s h₀ L m [] rest s' [(a, tupObj [])] → Q (.ref a) s') : wpAny (model PP w) A (call (.ref 50) [.bytes b t]) Q E s := by
  obtain ⟨hh, gg, dd, tk0, oo⟩ := s
  dsimp only at G h
  refine call_def (cl := []) (core := []) (binds := [("resp", .bytes b t)]) W G (by k_is) rfl (by k_is) R.room (.of_eq rfl) (by rfl) ?_ (by decide)
  intro g L' h₁ W' kp G' back
  refine wpAny_execs_cons ?_
  refine wpAny_Assign_Name ?_
  refine MethodCall_ ?_
  refine nameX_K G'.fr W'.X W'.T (by k_is) ?_
  have X1 := W'.X.keeps G'.fr.keep
  refine getMethod_builtin (T := "re.Pattern") ⟨_, X1 43 _ (by k_is), rfl⟩ plainAttrs_re slot_rmatch type_rmatch (fun a e => by cases e; exact ⟨_, X1 43 _ (by k_is), rfl⟩) ?_
  refine callWith_method1 ?_
  refine spliced_more (nameX_L G'.fr rfl (spliced_none ?_))
  refine wpAny_call_entry slot_rmatch ⟨_, X1 43 _ (by k_is), rfl⟩ entry_rmatch ?_ (args_rmatch _ _)
  refine match_none (s := ⟨h₁, _, _, _, _⟩) X1 F h1 ⟨_, rfl, ?_⟩
  refine storeL (s := ⟨_, _, _, _, _⟩) G' fun h3 G3 kt3 ko3 => ?_
  dsimp only
  refine wpAny_execs_cons ?_
  refine wpAny_If ?_
  refine isTrue_not ?_
  refine isTrue_plain ?_
  refine nameX_L (s := ⟨h3, _, _, _, _⟩) G3.fr rfl ?_
  refine wpAny_of_eq (a := false) rfl ?_
  rw [if_pos (by decide)]
  refine wpAny_execs_cons ?_
  refine wpAny_Return_some ?_
  refine Tuple_ ?_
  refine spliced_none ?_
  refine wpAny_newObj_type ?_ (by size_fits)
  have G5 := G3.alloc (tupObj [])
  exact h _ _ (back ⟨_, _, _, _, _⟩ _ _ G5 rfl id)
end
end Mine
end
section
open PySem PySem.W PyProof.Rows PySem.Calls PySem.Spec Builtin
set_option Elab.async false
set_option maxRecDepth 100000
set_option maxHeartbeats 4000000
set_option pp.maxSteps 3000
namespace Mine
theorem fillB5 (w : World) (h₀ : Heap) : (hd.heap_1 w.params).In h₀ → PySem.Challenge.rw_zd0011_01.Holds → True := by k_fill; intros; trivial

theorem loop_inv {M : Model} {A : Around} {C : Code} {R : Result → Shared → Prop} (I : Nat → Shared → Prop) (step : ∀ k, (∀ j s, j < k → I j s → codeAny M A C R s) → ∀ s, I k s → codeAny M A C R s) : ∀ k s, I k s → codeAny M A C R s := fun k => by
  induction k using Nat.strongRecOn with
  | ind k ih => exact fun s hs => step k (fun j s hj hI => ih j hj s hI) s hs

noncomputable abbrev nmAll : List Str := [Str.ofString "OPTIMIZED", Str.ofString "NEWLOCALS", Str.ofString "VARARGS", Str.ofString "VARKEYWORDS", Str.ofString "NESTED", Str.ofString "GENERATOR", Str.ofString "NOFREE", Str.ofString "COROUTINE", Str.ofString "ITERABLE_COROUTINE", Str.ofString "ASYNC_GENERATOR", Str.ofString "0x400"]
noncomputable abbrev nmAt (i : Nat) : Str := nmAll.getD i (Str.ofString "")
/-- what the loop still writes, from place i on, of the flags f -/
noncomputable def tailN : Nat → Nat → Nat → List Str
  | 0, _, f => [PySem.baseText "0x" 16 f]
  | k + 1, i, f => if f.testBit i then (if f - 2 ^ i = 0 then [nmAt i] else nmAt i :: tailN k (i + 1) (f - 2 ^ i)) else tailN k (i + 1) f
noncomputable abbrev prettyS (n : Nat) : Str := Txt.join (Str.ofString ", ") (tailN 32 0 n)

theorem and_two (f i : Nat) : f &&& 2 ^ i = if f.testBit i then 2 ^ i else 0 := by
  apply Nat.eq_of_testBit_eq
  intro j
  rw [Nat.testBit_and, Nat.testBit_two_pow]
  by_cases e : i = j
  · subst e
    cases h : f.testBit i <;> simp
  · cases h : f.testBit i <;> simp [e]
theorem and_bit (f i : Nat) : Builtin.bitAnd (f : Int) (1 * 2 ^ ((i : Int)).toNat) = if f.testBit i then ((2 ^ i : Nat) : Int) else 0 := by
  have e : (1 : Int) * 2 ^ ((i : Int)).toNat = ((2 ^ i : Nat) : Int) := by simp
  rw [e, bitAnd_pp (Int.natCast_nonneg _) (Int.natCast_nonneg _)]
  simp only [Int.toNat_natCast]
  rw [and_two]
  cases f.testBit i <;> simp
theorem xor_bit (f i : Nat) (h : f.testBit i = true) : Builtin.bitXor (f : Int) (1 * 2 ^ ((i : Int)).toNat) = ((f - 2 ^ i : Nat) : Int) := by
  rw [bitXor_and, and_bit, h, if_pos rfl]
  have e : (1 : Int) * 2 ^ ((i : Int)).toNat = ((2 ^ i : Nat) : Int) := by simp
  rw [e]
  have := Nat.ge_two_pow_of_testBit h
  omega
theorem bit_lt {f i : Nat} (hf : f < 2048) (h : f.testBit i = true) : i ≤ 10 := by
  have := Nat.ge_two_pow_of_testBit h
  refine Nat.le_of_not_lt fun q => ?_
  have : 2 ^ 11 ≤ 2 ^ i := Nat.pow_le_pow_right (by decide) q
  omega

section
variable {w : World} {mg mb : Str → Option Value} {A : Around} {s : Shared} {h₀ h : Heap} {L K : Addr} {m : Str → Option Value} {l la r rest news : List (Addr × Obj)} {Q E : Value → Shared → Prop}

theorem get_name {i : Nat} {t u : Tok} (hi : i ≤ 10) (X : (hd.heap_1 w.params).In s.heap) (h : ∀ t' k, Q (.str (nmAt i) t') { s with toks := k }) :
    wpAny (model PP w) A (call (.builtin "dict.get") [.ref 51, .int (1 * 2 ^ ((i : Int)).toNat) t, .str (PySem.baseText "0x" 16 (1 * 2 ^ ((i : Int)).toNat)) u]) Q E s := by
  have h51 := X 51 _ (by k_is)
  have key : ∀ v : Int, (intKind PP w).is v (.int v t) = true := fun v => intKind_is PP w v t
  have hT : s.TypeIs (.ref 51) "dict" := ⟨_, h51, rfl⟩
  refine call_meetsIn PySem.F.slot_dict_get hT PySem.F.entry_dict_get (PySem.F.args_dict_get_3 _ _ _) (meets_dict_get_default (intKind PP w) 51 (key _) (by decide) _) ⟨_, ⟨_, _, _, h51, ⟨rfl, rfl, rfl⟩, rfl, ?_, fun _ => rfl⟩, ?_⟩
  · intro e he
    simp only [List.mem_toArray, List.mem_cons, List.not_mem_nil, or_false] at he
    have hh : ∀ v, (intKind PP w).hash v = hashInt v := fun _ => rfl
    rcases he with rfl | rfl | rfl | rfl | rfl | rfl | rfl | rfl | rfl | rfl
    all_goals exact ⟨_, intKind_is PP w _ _, by rw [hh]; decide⟩
  · obtain rfl | rfl | rfl | rfl | rfl | rfl | rfl | rfl | rfl | rfl | rfl : i = 0 ∨ i = 1 ∨ i = 2 ∨ i = 3 ∨ i = 4 ∨ i = 5 ∨ i = 6 ∨ i = 7 ∨ i = 8 ∨ i = 9 ∨ i = 10 := by omega
    all_goals exact h _ _

theorem storeM {a : Addr} {cn x : Str} {cs : Scope} {ccd v : Value} {cl : List (Str × Addr)} {Q : Unit → Shared → Prop} (G : Lg h₀ L m s.heap news)
    (h : ∀ h', Lg h₀ L (fun y => if y = x then some v else m y) h' news → Q () { s with heap := h', toks := s.toks + 1 })
    (hk : cs.kind = .function := by rfl) (hx : (envX cn cs L a ccd cl).kindOf x = some .local := by rfl) : wpAny (model PP w) A (storeName (envX cn cs L a ccd cl) x v) Q E s :=
  storeL G (fun h' G' _ _ => h h' G') hk hx

theorem storeN {a : Addr} {cn x : Str} {cs : Scope} {ccd v : Value} {cl : List (Str × Addr)} {Q : Unit → Shared → Prop} (G : Lg h₀ L m s.heap news)
    (h : ∀ h' m', m' x = some v → (∀ y, y ≠ x → m' y = m y) → Lg h₀ L m' h' news → Q () { s with heap := h', toks := s.toks + 1 })
    (hk : cs.kind = .function := by rfl) (hx : (envX cn cs L a ccd cl).kindOf x = some .local := by rfl) : wpAny (model PP w) A (storeName (envX cn cs L a ccd cl) x v) Q E s :=
  storeL G (fun h' G' _ _ => h h' _ (if_pos rfl) (fun _ hy => if_neg hy) G') hk hx
/-- a name that the last store left alone -/
theorem lk {m m' : Str → Option Value} {x y : Str} {o : Option Value} (k : ∀ y, y ≠ x → m' y = m y) (h : m y = o) (hne : y ≠ x := by decide) : m' y = o := (k y hne).trans h
noncomputable abbrev rIt (i : Nat) : Obj := { cls := .type "range_iterator", data := .fields #[rawInt (i : Int), rawInt (32 - (i : Int)), rawInt 1] }
noncomputable abbrev wt (ys : List Str) : Nat := (ys.map (·.length)).sum + ys.length
theorem base_len {f : Nat} (hf : f < 2 ^ 32) : (PySem.baseText "0x" 16 (f : Int)).length ≤ 1000 := by
  have h1 := toDigits_len_pow (b := 16) (k := 8) (n := f) (by decide) (by decide) hf
  unfold PySem.baseText
  rw [if_neg (by omega)]
  have key : ∀ a b : Str, (a ++ b).length = a.length + b.length := fun a b => Array.size_append
  rw [key, key]
  have e1 : (Str.ofString "").length = 0 := by decide
  have e2 : (Str.ofString "0x").length = 2 := by decide
  rw [e1, e2, PySem.ofString_ofList_length, Int.natAbs_natCast]
  omega
theorem nm_len (i : Nat) : (nmAt i).length ≤ 20 := by
  by_cases h : i < 11
  · have : ∀ i, i < 11 → (nmAt i).length ≤ 20 := by decide +kernel
    exact this i h
  · unfold nmAt
    rw [List.getD_eq_getElem?_getD, List.getElem?_eq_none (by show 11 ≤ i; omega)]
    decide
theorem c_pretty {N : Nat} {t : Tok} (hN : N < 2048) (R : Rm A 4) (W : Wd w mg mb h₀) (G : Lg h₀ L m s.heap ([] ++ rest))
    (h : ∀ s' t', Bk s h₀ L m [] rest s' [] → Q (.str (prettyS N) t') s') : wpAny (model PP w) A (call (.ref 58) [.int N t]) Q E s := by
  obtain ⟨hh, gg, dd, tk0, oo⟩ := s
  dsimp only at G h
  refine call_def (cl := []) (core := []) (binds := [("flags", .int N t)]) W G (by k_is) rfl (by k_is) R.room (.of_eq rfl) (by rfl) ?_ (by decide)
  intro g L' h₁ W' kp G' back
  refine wpAny_execs_cons ?_
  refine wpAny_Assign_Name ?_
  refine List_ ?_
  refine spliced_none ?_
  have G2 := G'.app.allocR (listO [] 0)
  refine wpAny_newObj_type ?_
  refine storeM (s := ⟨_, _, _, _, _⟩) G2 fun h3 G3 => ?_
  dsimp only at G3 ⊢
  refine wpAny_execs_cons ?_
  refine wpAny_For ?_
  refine Call_ ?_
  refine nameX_B (s := ⟨h3, _, _, _, _⟩) G3.fr W'.X W'.T (by k_is) (by boot_by_name) (by decide) ?_
  refine PyProof.Rows.callWith_type1 (spliced_more (wpAny_Constant_int (spliced_none ?_)))
  refine call_range_1 ?_
  dsimp only
  have G4 := G3.allocR { cls := .type "range", data := .fields #[.int 0 (tk0 + [(("flags" : Str), Value.int N t)].length + 1 + 1), .int 32 (tk0 + [(("flags" : Str), Value.int N t)].length + 1), .int 1 (tk0 + [(("flags" : Str), Value.int N t)].length + 1 + 1 + 1)] }
  refine wpAny_pyIter_range (s := ⟨_, _, _, _, _⟩) (G4.getR (i := 1) rfl) (by decide) ?_
  dsimp only
  have G5 := (G4.allocR (rIt 0)).dropR (r' := [(h₁.objs.size, listO [] 0), (_, rIt 0)]) (.cons_cons _ (.cons _ (.refl _)))
  generalize (h3.push { cls := .type "range", data := .fields #[.int 0 (tk0 + [(("flags" : Str), Value.int N t)].length + 1 + 1), .int 32 (tk0 + [(("flags" : Str), Value.int N t)].length + 1), .int 1 (tk0 + [(("flags" : Str), Value.int N t)].length + 1 + 1 + 1)] }).objs.size = it at G5 ⊢
  generalize h₁.objs.size = ls at G5 ⊢
  clear G4 G3 G2
  refine codeAny_mono (R := fun r s' => r = .ok .next ∧ ∃ hX m' us n, s'.heap = hX ∧ s'.os = oo ∧ s'.gens = gg ∧ Lg g L' m' hX ([] ++ [(ls, listO us n)]) ∧ m' "names" = some (.ref ls) ∧ StrsAre us (tailN 32 0 N) ∧ wt (tailN 32 0 N) ≤ 3000) ?_ (fun r s' hr => ?_)
  · refine loop_inv (I := fun k s' => ∃ hX tX m' us ys f tf n i, s' = ⟨hX, gg, dd, tX, oo⟩ ∧ i + k = 32 ∧ f < 2048 ∧ StrsAre us ys ∧ tailN 32 0 N = ys ++ tailN k i f ∧ wt ys ≤ i * 21 ∧ us.length ≤ i ∧ m' "names" = some (.ref ls) ∧ m' "flags" = some (.int (f : Nat) tf) ∧ Lg g L' m' hX ([] ++ [(ls, listO us n), (it, rIt i)])) ?_ 32 _
      ⟨_, _, _, [], [], N, t, 0, 0, rfl, rfl, hN, .nil, rfl, Nat.zero_le _, Nat.le_refl _, rfl, rfl, G5⟩
    rintro k ih s' ⟨hX, tX, m', us, ys, f, tf, n, i, rfl, hik, hf, hus, hys, hwt, hul, hm1, hm2, GX⟩
    refine for_turn ?_
    cases k with
    | zero =>
      refine wpAny_pyNext_range_end (R.deep (k := 3)).h (GX.getR (i := 1) rfl) (by omega) fun h6 hx6 => ?_
      have G6 := Lg.loseLast (la := [] ++ [(ls, listO us n)]) (by simpa using GX) hx6
      refine wpAny_execs_cons (wpAny_Expr_any ?_)
      refine MethodCall_ ?_
      refine nameX_L (s := ⟨h6, _, _, _, _⟩) G6.fr hm1 ?_
      refine Calls.getMethod_list_append (s := ⟨h6, _, _, _, _⟩) (G6.getR (i := 0) rfl) rfl rfl ?_
      refine callWith_method1 (spliced_more (Call_ ?_))
      refine nameX_B (s := ⟨h6, _, _, _, _⟩) G6.fr W'.X W'.T (by k_is) (by boot_by_name) (by decide) ?_
      refine PyProof.Rows.callWith_builtin1 (spliced_more (nameX_L (s := ⟨h6, _, _, _, _⟩) G6.fr hm2 (spliced_none ?_)))
      have hbl := base_len (f := f) (by omega)
      refine P.hex_of_int ?_ (size_fits' (by omega))
      refine spliced_none ?_
      refine lst_append (s := ⟨h6, _, _, _, _⟩) (la := []) G6 (i := 0) rfl (by omega) fun h7 n7 G7 _ => ?_
      refine wpAny_execs_nil ?_
      refine ⟨rfl, h7, m', _, n7, rfl, rfl, rfl, G7, hm1, ?_, ?_⟩
      · rw [hys]; exact strsAre_append _ _ hus
      · rw [hys]
        unfold wt at hwt ⊢
        simp only [tailN, List.map_append, List.sum_append, List.length_append, List.map_cons, List.map_nil, List.sum_cons, List.sum_nil, List.length_cons, List.length_nil]
        omega
    | succ k =>
      refine wpAny_pyNext_range_item (GX.getR (i := 1) rfl) (by omega) fun h6 hit6 hs6 => ?_
      have G6 := GX.writeR (i := 1) rfl hs6 hit6
      have e6 : ({ cls := .type "range_iterator", data := .fields #[rawInt ((i : Int) + 1), rawInt (32 - (i : Int) - 1), rawInt 1] } : Obj) = rIt (i + 1) := by
        unfold rIt
        rw [show ((i : Int) + 1) = ((i + 1 : Nat) : Int) by omega, show (32 - (i : Int) - 1) = (32 - ((i + 1 : Nat) : Int)) by omega]
      replace G6 : Lg g L' m' h6 ([] ++ [(ls, listO us n), (it, { cls := .type "range_iterator", data := .fields #[rawInt ((i : Int) + 1), rawInt (32 - (i : Int) - 1), rawInt 1] })]) := G6
      rw [e6] at G6
      dsimp only
      refine wpAny_assign_Name ?_
      refine storeN (s := ⟨h6, _, _, _, _⟩) G6 fun h7 m7 e7 k7 G7 => ?_
      dsimp only
      refine wpAny_execs_cons ?_
      refine wpAny_Assign_Name ?_
      refine wpAny_BinOp (wpAny_Constant_int (nameX_L (s := ⟨h7, _, _, _, _⟩) G7.fr e7 ?_))
      refine lshift_int_small (by omega) (by omega) (by decide) ?_
      refine storeN (s := ⟨h7, _, _, _, _⟩) G7 fun h8 m8 e8 k8 G8 => ?_
      dsimp only
      refine wpAny_execs_cons ?_
      refine wpAny_If ?_
      refine isTrue_plain ?_
      refine wpAny_BinOp (nameX_L (s := ⟨h8, _, _, _, _⟩) G8.fr (lk k8 (lk k7 hm2)) (nameX_L (s := ⟨h8, _, _, _, _⟩) G8.fr e8 ?_))
      refine PyProof.Rows.and_int ?_
      rw [and_bit]
      refine PyProof.Rows.truthy_int ?_
      have hstep : tailN 32 0 N = ys ++ (if f.testBit i then (if f - 2 ^ i = 0 then [nmAt i] else nmAt i :: tailN k (i + 1) (f - 2 ^ i)) else tailN k (i + 1) f) := hys
      by_cases hbit : f.testBit i = true
      · rw [hbit, if_pos rfl] at hstep
        rw [hbit, if_pos rfl]
        have hi10 := bit_lt hf hbit
        rw [if_pos (by
          have : 0 < 2 ^ i := Nat.two_pow_pos i
          rw [bne_iff_ne]
          intro q
          have q' := Int.natCast_eq_zero.mp q
          omega)]
        refine wpAny_execs_cons (wpAny_Expr_any ?_)
        refine MethodCall_ ?_
        refine nameX_L (s := ⟨h8, _, _, _, _⟩) G8.fr (lk k8 (lk k7 hm1)) ?_
        refine Calls.getMethod_list_append (s := ⟨h8, _, _, _, _⟩) (G8.getR (i := 0) rfl) rfl rfl ?_
        refine callWith_method1 (spliced_more (MethodCall_ ?_))
        refine nameX_K (s := ⟨h8, _, _, _, _⟩) G8.fr W'.X W'.T (by k_is) ?_
        have X8 := W'.X.keeps G8.fr.keep
        have h51 := X8 51 _ (by k_is)
        refine getMethod_builtin (s := ⟨h8, _, _, _, _⟩) (T := "dict") ⟨_, h51, rfl⟩ PySem.F.plainAttrs_dict PySem.F.slot_dict_get PySem.F.type_dict_get (fun a e => by cases e; exact ⟨_, h51, rfl⟩) ?_
        refine callWith_method1 (spliced_more (nameX_L (s := ⟨h8, _, _, _, _⟩) G8.fr e8 (spliced_more (Call_ ?_))))
        refine nameX_B (s := ⟨h8, _, _, _, _⟩) G8.fr W'.X W'.T (by k_is) (by boot_by_name) (by decide) ?_
        refine PyProof.Rows.callWith_builtin1 (spliced_more (nameX_L (s := ⟨h8, _, _, _, _⟩) G8.fr e8 (spliced_none ?_)))
        refine P.hex_of_int ?_ ?_
        · refine spliced_none ?_
          refine get_name (s := ⟨h8, _, _, _, _⟩) hi10 X8 fun t9 k9 => ?_
          refine spliced_none ?_
          refine lst_append (s := ⟨h8, _, _, _, _⟩) (la := []) G8 (i := 0) rfl (by omega) fun h9 n9 G9 _ => ?_
          dsimp only at G9 ⊢
          refine wpAny_execs_cons ?_
          refine wpAny_AugAssign_Name ?_
          refine wpAny_loadName_local rfl rfl G9.fr.ns (lk k8 (lk k7 hm2)) ?_
          refine nameX_L (s := ⟨h9, _, _, _, _⟩) G9.fr e8 ?_
          refine PyProof.Rows.ixor_int ?_
          rw [xor_bit f i hbit]
          refine storeN (s := ⟨h9, _, _, _, _⟩) G9 fun h10 m10 e10 k10 G10 => ?_
          dsimp only
          have hwt' : wt (ys ++ [nmAt i]) ≤ (i + 1) * 21 := by
            have := nm_len i
            unfold wt at hwt ⊢
            simp only [List.map_append, List.sum_append, List.length_append, List.map_cons, List.map_nil, List.sum_cons, List.sum_nil, List.length_cons, List.length_nil]
            omega
          refine wpAny_execs_cons ?_
          refine wpAny_If ?_
          refine isTrue_not (isTrue_plain (nameX_L (s := ⟨h10, _, _, _, _⟩) G10.fr e10 ?_))
          refine PyProof.Rows.truthy_int ?_
          by_cases hz : f - 2 ^ i = 0
          · rw [if_pos hz] at hstep
            rw [hz, if_pos (by decide)]
            refine wpAny_execs_cons (wpAny_Break ?_)
            refine ⟨rfl, h10, _, _, n9, rfl, rfl, rfl, G10.dropR (.cons_cons _ (.cons _ (.refl _))), lk k10 (lk k8 (lk k7 hm1)), ?_, ?_⟩
            · rw [hstep]; exact strsAre_append _ _ hus
            · rw [hstep]; omega
          · rw [if_neg hz] at hstep
            rw [if_neg (by simp; omega)]
            refine wpAny_execs_nil ?_
            dsimp only
            refine wpAny_execs_nil ?_
            dsimp only
            refine wpAny_execs_nil ?_
            refine ih k _ (Nat.lt_succ_self _) ⟨h10, _, _, _, ys ++ [nmAt i], f - 2 ^ i, _, n9, i + 1, rfl, by omega, Nat.lt_of_le_of_lt (Nat.sub_le _ _) hf, strsAre_append _ _ hus, ?_, hwt', by simp; omega, lk k10 (lk k8 (lk k7 hm1)), e10, G10⟩
            rw [hstep, List.append_assoc]; rfl
        · obtain rfl | rfl | rfl | rfl | rfl | rfl | rfl | rfl | rfl | rfl | rfl : i = 0 ∨ i = 1 ∨ i = 2 ∨ i = 3 ∨ i = 4 ∨ i = 5 ∨ i = 6 ∨ i = 7 ∨ i = 8 ∨ i = 9 ∨ i = 10 := by omega
          all_goals exact size_fits' (by decide +kernel)
      · have hbit' : f.testBit i = false := by simpa using hbit
        rw [hbit', if_neg (by decide)] at hstep
        rw [hbit', if_neg (c := false = true) (by decide), if_neg (show ¬ (((0 : Int) != 0) = true) by decide)]
        refine wpAny_execs_nil ?_
        dsimp only
        refine wpAny_execs_nil ?_
        refine ih k _ (Nat.lt_succ_self _) ⟨h8, _, _, us, ys, f, tf, n, i + 1, rfl, by omega, hf, hus, hstep, by omega, by omega, lk k8 (lk k7 hm1), lk k8 (lk k7 hm2), G8⟩
  · obtain ⟨rfl, hX, m', us, n, e1, e2, e3, GX, hm, hus, hwt⟩ := hr
    obtain ⟨hX', gX, dX, tX, oX⟩ := s'
    dsimp only at e1 e2 e3
    subst e1 e2 e3
    dsimp only
    refine wpAny_execs_cons ?_
    refine wpAny_Return_some ?_
    refine MethodCall_ (Calls.Constant_str ?_)
    refine GM.join ?_
    refine callWith_method1 (spliced_more (nameX_L (s := ⟨hX', _, _, _, _⟩) GX.fr hm (spliced_none ?_)))
    refine join_listW (s := ⟨hX', _, _, _, _⟩) ⟨_, GX.getR (i := 0) rfl, rfl, _, rfl⟩ (by simpa using hus) (by decide) (by unfold wt at hwt; omega) fun t' k => ?_
    exact h _ _ (back ⟨_, _, _, _, _⟩ _ _ (GX.dropR (.cons _ (.refl _))) rfl id)
end
end Mine
end
section
open PySem PySem.W PyProof.Rows PySem.Calls PySem.Spec
set_option Elab.async false
set_option maxRecDepth 100000
set_option maxHeartbeats 4000000
set_option pp.maxSteps 3000
namespace Mine
section
variable {w : World} {mg mb : Str → Option Value} {A : Around} {s : Shared} {h₀ h : Heap} {L : Addr} {v : Value} {m : Str → Option Value} {core rest news : List (Addr × Obj)}

theorem cellsAre_fst {cm : Str → Option Value} : ∀ {cs : List (Str × Addr)} {cells : List (Addr × Obj)}, CellsAre cm cs cells → cells.map (·.1) = cs.map (·.2)
  | _, _, .nil => rfl
  | _, _, .cons _ r => by rw [List.map_cons, List.map_cons, cellsAre_fst r]

theorem call_defC {Q E : Value → Shared → Prop} {f : Addr} {fo : Obj} {name qual : Str} {params : Arguments} {body : List Stmt} {scope : Scope} {dV kV doc pm cdv ct : Value} {an : Option Addr} {vals : List Value} {binds : List (Str × Value)}
    (W : Wd w mg mb h₀) (G : Lg h₀ L m s.heap (core ++ rest)) (ho : (hd.heap_1 w.params).lookup f = some fo) (hdt : fo.data = .func (fnX name qual params body scope [] dV kV doc pm an cdv ct)) (hcd : codeIn (hd.heap_1 w.params) cdv qual = true) (hroom : A.depth < recursionLimit)
    (hbind : BindsTo s (fnX name qual params body scope [] dV kV doc pm an cdv ct) ⟨vals, []⟩ binds)
    (hkind : ∀ n, ∀ x ∈ binds, scope.names.lookup x.1 = some .local ∨ (scope.names.lookup x.1 = some .cell ∧ ((cellsFrom n scope.names []).lookup x.1).isSome = true))
    (hnd : ((cellsFrom 0 scope.names []).map (·.1)).Nodup)
    (h : ∀ g L' h₁ tk cells, Wd w mg mb g → (∀ b o, s.heap.get? b = some o → b ∉ core.map (·.1) → g.get? b = some o) → Lg g L' (bindL (envOfC qual scope L' f cdv).kindOf binds fun _ => none) h₁ (cells ++ core) →
      CellsAre (bindC (envOfC qual scope L' f cdv).kindOf binds fun _ => none) (cellsFrom (L' + 1) scope.names []) cells →
      (∀ (s' : Shared) (m' : Str → Option Value) (l' : List (Addr × Obj)), Lg g L' m' s'.heap l' → s'.os = s.os → (AllBare s.gens → AllBare s'.gens) → Bk s h₀ L m core rest s' l') →
      wpAny (model PP w) (A.deeper (envX qual scope L' f cdv (cellsFrom (L' + 1) scope.names []))) (execs body (envX qual scope L' f cdv (cellsFrom (L' + 1) scope.names []))) (fun fl s' => Q (match fl with | .ret v => v | _ => .none) s') (fun _ _ => False)
        { s with heap := h₁, toks := tk })
    (hco : scope.isCoroutine = false := by rfl) (hgen : scope.isGenerator = false := by rfl) (hk : scope.kind = .function := by rfl) : wpAny (model PP w) A (call (.ref f) vals) Q E s := by
  have st : ∀ b o, h₀.get? b = some o → (hideAll s.heap (core.map (·.1))).get? b = some o := fun b o e => hideAll_get _ (G.fr.keep b o e) (G.h0_core b o e)
  refine wpAny_call (codeAny_call_function hroom (G.fr.keep _ _ (W.X _ _ ho)) hdt hco hgen rfl (codeRec_of (W.X.keeps G.fr.keep) hcd) (hbind _ _ _ _ ?_))
  refine wpAny_newFunctionEnv_cells hk (hkind _) fun env' he s' x => ?_
  subst he
  refine ⟨(W.T.nolimit.keeps G.fr.keep).keeps x.toInCall.keep, codeAny_func ?_⟩
  obtain ⟨h₁, tk, rfl, _⟩ := x.done
  have hk₁ := x.toInCall.keep
  obtain ⟨cells, NC, Y⟩ := Cl.news (h₀ := s.heap) (Nat.le_refl _) fun n c hm => ⟨x.cell n c (lookup_of_mem_nodup (cellsFrom_names scope.names 0 (s.heap.objs.size + 1) [] [] rfl ▸ hnd) hm), x.above n c hm⟩
  refine wpAny_mono (h (hideAll s.heap (core.map (·.1))) s.heap.objs.size h₁ tk cells (W.keeps st) G.hideCore ⟨⟨x.toInCall.ns, fun b o e => hk₁ b o (of_hideAll _ e), Nat.le_of_eq (hideAll_size _ _)⟩, fun p hp => ?_, ?_⟩ Y
    (fun s' m' l' G' ho hg => ⟨G.back G', fun b o e n => G'.fr.keep b o (G.hideCore b o e n), ho, hg⟩)) (fun fl s' hl => hl) fun _ _ y => y.elim
  · rcases List.mem_append.mp hp with hp | hp
    · refine ⟨(NC p hp).1, (NC p hp).2.1, ?_⟩
      cases q : (hideAll s.heap (core.map (·.1))).get? p.1 with
      | none => rfl
      | some o => have := of_hideAll _ q; rw [(NC p hp).2.2] at this; cases this
    · have hp' := List.mem_append_left rest hp
      exact ⟨hk₁ _ _ (G.nw p hp').1, Nat.ne_of_lt (Heap.lt_size (G.nw p hp').1), hideAll_none _ (List.mem_map_of_mem hp)⟩
  · have nd := G.nd
    rw [List.map_append, List.nodup_append] at nd
    rw [List.map_append, List.nodup_append]
    refine ⟨?_, nd.1, fun a ha b hb e => ?_⟩
    · rw [cellsAre_fst Y]; exact List.pairwise_map.mpr x.apart
    · obtain ⟨p, hp, rfl⟩ := List.mem_map.mp ha
      obtain ⟨q, hq, rfl⟩ := List.mem_map.mp hb
      have h1 := (NC p hp).2.2
      have h2 := (G.nw q (List.mem_append_left rest hq)).1
      rw [e, h2] at h1
      cases h1

/-- a name that a nested text holds too is set -/
theorem storeC {a c : Addr} {cn x : Str} {cs : Scope} {ccd v : Value} {cl : List (Str × Addr)} {o : Obj} {v₀ : Option Value} {i : Nat} {E : Value → Shared → Prop} {Q : Unit → Shared → Prop} (G : Lg h₀ L m s.heap news) (hi : news[i]? = some (c, o)) (hc : cl.lookup x = some c) (hd : o.data = .cell v₀)
    (h : ∀ h' o', o'.data = .cell (some v) → Lg h₀ L m h' (news.set i (c, o')) → Q () { s with heap := h' })
    (hk : cs.kind = .function := by rfl) (hx : (envX cn cs L a ccd cl).kindOf x = some .cell := by rfl) : wpAny (model PP w) A (storeName (envX cn cs L a ccd cl) x v) Q E s := by
  refine wpAny_storeName_cell hk hx hc ⟨o, G.get hi, hd⟩ fun h' hv hs => ?_
  obtain ⟨o', ho', hd'⟩ := hv
  exact h h' o' hd' (G.write hi hs ho')
/-- and read -/
theorem nameC {a c : Addr} {cn x : Str} {cs : Scope} {ccd v : Value} {cl : List (Str × Addr)} {o : Obj} {i : Nat} {pos : Pos} {E : Value → Shared → Prop} {Q : Value → Shared → Prop} (G : Lg h₀ L m s.heap news) (hi : news[i]? = some (c, o)) (hc : cl.lookup x = some c) (hd : o.data = .cell (some v)) (h : Q v s)
    (hk : cs.kind = .function := by rfl) (hx : (envX cn cs L a ccd cl).kindOf x = some .cell := by rfl) (hb : (x == ("__debug__" : Str)) = false := by decide) :
    wpAny (model PP w) A (PySem.eval (.Name x pos) (envX cn cs L a ccd cl)) Q E s := wpAny_Name (wpAny_loadName_cell hk hx hc ⟨o, G.get hi, hd⟩ h) hb
end
end Mine
end
section
open PySem PySem.W PyProof.Rows PySem.Calls PySem.Spec
set_option Elab.async false
set_option maxRecDepth 100000
set_option maxHeartbeats 4000000
set_option pp.maxSteps 3000
namespace Mine
theorem fillC2 (w : World) (h₀ : Heap) : (hd.heap_1 w.params).In h₀ → PySem.Challenge.rw_zd0011_01.Holds → True := by k_fill; intros; trivial
/-- the names that a mask picks, up to place i -/
noncomputable def preW (mask first : Nat) : Nat → List Str
  | 0 => []
  | i + 1 => preW mask first i ++ (if mask.testBit i then [nmAt (first + i)] else [])
noncomputable def wordsS (mask first : Nat) : List Str := if preW mask first 4 = [] then [Str.ofString "0x0"] else preW mask first 4
theorem restT_inv {prog : Program} {w : World} {A : Around} {s : Shared} {h₀ : Heap} {L : Addr} {m : Str → Option Value} {env : Env} {ct elt : PySem.Expr} {x : Str} {scope : Scope} {cl : List (Str × Addr)} {S : List (Addr × Obj) → Prop} {P : Nat → Value → Prop} {Fin : List Value → List (Addr × Obj) → Prop} {news : List (Addr × Obj)} {n : Nat}
    (I : Nat → List Value → Prop) (step : ∀ k i ys, i + (k + 1) = n → I i ys → (∀ ys', I (i + 1) ys' → LCt.CompRestT prog w A h₀ L m env ct elt x scope cl s S P Fin k (i + 1) ys' news) → LCt.CompRestT prog w A h₀ L m env ct elt x scope cl s S P Fin (k + 1) i ys news)
    (fin : ∀ ys, I n ys → Fin ys news) : ∀ k i ys, i + k = n → I i ys → LCt.CompRestT prog w A h₀ L m env ct elt x scope cl s S P Fin k i ys news
  | 0, i, ys, e, hI => LCt.CompRestT.zero (fin ys (by obtain rfl : i = n := by omega
                                                      exact hI))
  | k + 1, i, ys, e, hI => step k i ys e hI fun ys' h' => restT_inv I step fin k (i + 1) ys' (by omega) h'
theorem restU_inv {prog : Program} {w : World} {A : Around} {s : Shared} {h₀ : Heap} {L : Addr} {m : Str → Option Value} {env : Env} {elt : PySem.Expr} {x : Str} {scope : Scope} {cl : List (Str × Addr)} {S : List (Addr × Obj) → Prop} {P : Nat → Value → Prop} {Fin : List Value → List (Addr × Obj) → Prop} {n : Nat}
    (I : Nat → List Value → List (Addr × Obj) → Prop) (step : ∀ k i ys news, i + (k + 1) = n → I i ys news → (∀ ys' news', I (i + 1) ys' news' → LCg.CompRest prog w A h₀ L m env elt x scope cl s S P Fin k (i + 1) ys' news') → LCg.CompRest prog w A h₀ L m env elt x scope cl s S P Fin (k + 1) i ys news)
    (fin : ∀ ys news, I n ys news → Fin ys news) : ∀ k i ys news, i + k = n → I i ys news → LCg.CompRest prog w A h₀ L m env elt x scope cl s S P Fin k i ys news
  | 0, i, ys, news, e, hI => LCg.CompRest.zero (fin ys news (by obtain rfl : i = n := by omega
                                                                exact hI))
  | k + 1, i, ys, news, e, hI => step k i ys news e hI fun ys' news' h' => restU_inv I step fin k (i + 1) ys' news' (by omega) h'
section
variable {w : World} {mg mb : Str → Option Value} {A : Around} {s : Shared} {h₀ h : Heap} {L K : Addr} {m : Str → Option Value} {l la r rest news : List (Addr × Obj)} {Q E : Value → Shared → Prop}
theorem bit_test (mask i : Nat) : (((mask : Int).fdiv (2 ^ ((i : Int)).toNat)).fmod 2 == 1) = mask.testBit i := by
  have e : ((2 : Int) ^ ((i : Int)).toNat) = ((2 ^ i : Nat) : Int) := by simp
  rw [e, Int.fdiv_eq_ediv_of_nonneg _ (Int.natCast_nonneg _), Int.fmod_eq_emod_of_nonneg _ (by decide), Nat.testBit_eq_decide_div_mod_eq]
  have e2 : ((mask : Int) / ((2 ^ i : Nat) : Int)) % 2 = ((mask / 2 ^ i % 2 : Nat) : Int) := by simp
  rw [e2]
  by_cases q : mask / 2 ^ i % 2 = 1
  · rw [q]; rfl
  · have : ((mask / 2 ^ i % 2 : Nat) : Int) ≠ 1 := by omega
    rw [beq_eq_false_iff_ne.mpr this, decide_eq_false q]
theorem readsStrs {h : Heap} : ∀ {vs : List Value} {ys : List Str}, StrsAre vs ys → ReadsAll h vs (ys.map PyData.str) []
  | _, _, .nil => .nil
  | _, _, .cons y t r => .cons (.str y t) (readsStrs r)
theorem shapedStrs {ys : List Str} (h : ∀ y ∈ ys, PyData.strOk y = true) : SeqAt.shaped (.list (ys.map PyData.str)) = true := by
  have a : ∀ ys : List Str, (∀ y ∈ ys, PyData.strOk y = true) → PyData.canLayAll0 (ys.map PyData.str) = true := by
    intro ys
    induction ys with
    | nil => intro _; rfl
    | cons y r ih => intro h; rw [List.map_cons]; simp only [PyData.canLayAll0, PyData.canLay0, h y List.mem_cons_self, Bool.true_and]; exact ih fun z hz => h z (List.mem_cons_of_mem _ hz)
  have b : ∀ ys : List Str, PyData.depthAll (ys.map PyData.str) = 0 := by
    intro ys
    induction ys with
    | nil => rfl
    | cons y r ih => rw [List.map_cons]; simp only [PyData.depthAll, PyData.depth, ih]; rfl
  unfold SeqAt.shaped
  simp only [PyData.canLay0, PyData.depth, a ys h, b]
  rfl
theorem nm_ok (i : Nat) : PyData.strOk (nmAt i) = true := by
  by_cases h : i < 11
  · have : ∀ i, i < 11 → PyData.strOk (nmAt i) = true := by decide +kernel
    exact this i h
  · unfold nmAt
    rw [List.getD_eq_getElem?_getD, List.getElem?_eq_none (by show 11 ≤ i; omega)]
    decide +kernel
theorem preW_mem {mask first : Nat} : ∀ i y, y ∈ preW mask first i → ∃ j, y = nmAt j
  | 0, y, h => by simp [preW] at h
  | i + 1, y, h => by
    unfold preW at h
    rcases List.mem_append.mp h with h | h
    · exact preW_mem i y h
    · split at h
      · simp only [List.mem_singleton] at h
        exact ⟨_, h⟩
      · simp at h
theorem preW_len {mask first : Nat} : ∀ i, (preW mask first i).length ≤ i
  | 0 => Nat.le_refl _
  | i + 1 => by
    have := preW_len (mask := mask) (first := first) i
    unfold preW
    rw [List.length_append]
    split <;> simp <;> omega
theorem eqv_nil (ys : List Str) : PyData.eqv (.list (ys.map PyData.str)) (.list []) = decide (ys = []) := by
  cases ys with
  | nil => simp [PyData.eqv, PyData.eqvAll]
  | cons y r => simp [PyData.eqv, PyData.eqvAll]
theorem Off1.ne {D : Addr} : ∀ {l : List (Addr × Obj)}, LCg.Off1 D l → ∀ p ∈ l, p.1 ≠ D
  | [], _, _, h => nomatch h
  | _ :: _, x, p, h => by
    rcases List.mem_cons.mp h with rfl | h
    · exact x.1
    · exact Off1.ne x.2 p h
inductive Consts : List PySem.Expr → List Str → Prop
  | nil : Consts [] []
  | cons (y : Str) (n : Nat) (p : Pos) {es ys} : Consts es ys → Consts (.Constant (.str y) n p :: es) (y :: ys)
theorem spliced_consts {env : Env} {pos : Pos} : ∀ {es : List PySem.Expr} {ys : List Str} {s : Shared} {Q : List Value → Shared → Prop}, Consts es ys → (∀ vs k, StrsAre vs ys → Q vs { s with toks := k }) →
    wpAny (model PP w) A (spliced (backTo pos (starEach es env))) Q E s
  | _, _, s, Q, .nil, h => spliced_none (h [] s.toks .nil)
  | _, _, s, Q, .cons y n p r, h => spliced_more (Calls.Constant_str (spliced_consts r fun vs k hv => h _ k (.cons _ _ hv)))
theorem c_words {mask first : Nat} {tm tf : Tok} (hm : mask < 16) (hf : first < 8) (R : Rm A 7) (W : Wd w mg mb h₀) (G : Lg h₀ L m s.heap ([] ++ rest))
    (h : ∀ s' a vs n, StrsAre vs (wordsS mask first) → Bk s h₀ L m [] rest s' [(a, listO vs n)] → Q (.ref a) s') : wpAny (model PP w) A (call (.ref 229) [.int mask tm, .int first tf]) Q E s := by
  obtain ⟨hh, gg, dd, tk0, oo⟩ := s
  dsimp only at G h
  refine call_defC (core := []) (binds := [("mask", .int mask tm), ("first", .int first tf)]) W G (by k_is) rfl (by k_is) R.room (.of_eq rfl) (fun n x hx => by
    simp only [List.mem_cons, List.not_mem_nil, or_false] at hx
    rcases hx with rfl | rfl <;> exact .inr ⟨by rfl, by rfl⟩) (by decide) ?_
  intro g L' h₁ tk cells W' kp G' Y back
  obtain ⟨o1, o2, o3, rfl, d1, d2, d3⟩ := CellsAre.three Y
  clear Y
  replace d1 : o1.data = .cell none := d1
  replace d2 : o2.data = .cell (some (.int first tf)) := d2
  replace d3 : o3.data = .cell (some (.int mask tm)) := d3
  obtain ⟨m1, G1⟩ : ∃ m1, Lg g L' m1 h₁ ([(L' + 1 + 1 + 1, o1), (L' + 1 + 1, o2), (L' + 1, o3)] ++ []) := ⟨_, G'⟩
  clear G'
  refine wpAny_execs_cons ?_
  refine wpAny_Assign_Name ?_
  refine List_ ?_
  refine spliced_consts (ys := nmAll) (.cons _ _ _ (.cons _ _ _ (.cons _ _ _ (.cons _ _ _ (.cons _ _ _ (.cons _ _ _ (.cons _ _ _ (.cons _ _ _ (.cons _ _ _ (.cons _ _ _ (.cons _ _ _ .nil))))))))))) fun us tk3 hus => ?_
  have hul : us.length = 11 := strsAre_len hus
  refine wpAny_newObj_type ?_ (by show us.toArray.size ≤ sizeLine; rw [List.size_toArray]; exact size_fits' (by omega))
  dsimp only
  have G2 := G1.alloc (listO us 0)
  refine storeC (s := ⟨_, _, _, _, _⟩) G2 (i := 1) rfl rfl d1 fun h3 o1' d1' G3 => ?_
  dsimp only
  generalize h₁.objs.size = nl at G3 d1'
  replace G3 : Lg g L' m1 h3 [(nl, listO us 0), (L' + 1 + 1 + 1, o1'), (L' + 1 + 1, o2), (L' + 1, o3)] := G3
  clear G2 G1 d1 o1
  refine wpAny_execs_cons ?_
  refine LCt.Assign_ListComp_T (F₀ := G3.fr) rfl (by with_unfolding_all rfl) (by with_unfolding_all rfl) (by decide) (by rfl) (by decide) (by rfl) (by rfl) (by rfl) ?_
  refine Call_ ?_
  refine nameX_B (s := ⟨h3, _, _, _, _⟩) G3.fr W'.X W'.T (by k_is) (by boot_by_name) (by decide) ?_
  refine PyProof.Rows.callWith_type1 (spliced_more (wpAny_Constant_int (spliced_none ?_)))
  refine call_range_1 ?_
  dsimp only
  have G4 := G3.alloc { cls := .type "range", data := .fields #[.int 0 (tk3 + 1), .int 4 tk3, .int 1 (tk3 + 1 + 1)] }
  refine LCt.CompSrcT.range (n := 4) (R.deep (k := 6)).h G4.fr (G4.drop (.cons _ (.refl _))).nw (G4.get (i := 0) rfl) (by decide) (by rfl) (size_fits' (by decide)) (fun gh => ?_)
  refine restT_inv (n := 4) (I := fun i ys => StrsAre ys (preW mask first i)) ?_ ?_ 4 0 [] rfl .nil
  · intro k i ys hik hI ih
    refine LCt.CompRestT.succ ?_
    rintro v I oI C oC D m₂ h5 tk5 E' ⟨tv, rfl⟩ hC hx F5 N5 off5 ne5
    dsimp only
    have gC : h5.Ns C m₂ := hC.ns (N5 (C, oC) (by simp)).1
    have gc : ∀ p ∈ [(nl, listO us 0), (L' + 1 + 1 + 1, o1'), (L' + 1 + 1, o2), (L' + 1, o3)], h5.get? p.1 = some p.2 := fun p hp => (N5 p (by
      simp only [List.mem_cons, List.not_mem_nil, or_false] at hp
      rcases hp with rfl | rfl | rfl | rfl <;> simp)).1
    have ekv : (0 : Int) + (i : Int) = (i : Int) := by omega
    rw [ekv] at hx
    refine wpAny_isTrue_Compare1 ?_
    refine wpAny_BinOp (wpAny_BinOp (wpAny_Name (wpAny_loadName_cell (c := L' + 1) (v := .int mask tm) rfl (by rfl) (by rfl) ⟨o3, gc (_, o3) (by simp), d3⟩ (wpAny_Name (wpAny_loadName_local rfl (by rfl) gC hx ?_) (by decide))) (by decide)))
    refine rshift_int (by omega) ?_
    refine wpAny_Constant_int (PyProof.Rows.mod_int (by decide) (wpAny_Constant_int (PyProof.Rows.eq_int ?_)))
    refine wpAny_truthy_bool ?_
    rw [bit_test]
    have hi4 : i < 4 := by omega
    by_cases hb : mask.testBit i = true
    · rw [hb, if_pos rfl]
      refine Subscript_ ?_
      refine wpAny_Name (wpAny_loadName_cell (c := L' + 1 + 1 + 1) (v := .ref nl) rfl (by rfl) (by rfl) ⟨o1', gc (_, o1') (by simp), d1'⟩ ?_) (by decide)
      refine wpAny_BinOp (wpAny_Name (wpAny_loadName_cell (c := L' + 1 + 1) (v := .int first tf) rfl (by rfl) (by rfl) ⟨o2, gc (_, o2) (by simp), d2⟩ (wpAny_Name (wpAny_loadName_local rfl (by rfl) gC hx ?_) (by decide))) (by decide))
      refine PyProof.Rows.add_int ?_
      have hnl := gc (nl, listO us 0) (by simp)
      obtain ⟨ty, hy⟩ := strsAre_at hus (first + i) (nmAt (first + i)) (by
        have : ∀ j, j < 11 → nmAll[j]? = some (nmAt j) := by decide +kernel
        exact this _ (by omega))
      refine subscriptTail_builtin (s := ⟨h5, _, _, _, _⟩) (T := "list") ⟨_, hnl, rfl⟩ list_getitem_lookup (wpAny_getItem_list (s := ⟨h5, _, _, _, _⟩) (items := us.toArray) ⟨_, hnl, rfl, _, rfl⟩ (by omega) (by omega) (x := .str (nmAt (first + i)) ty) (by
        rw [show ((first : Int) + (i : Int)).toNat = first + i by omega]
        simpa using hy) ?_)
      refine LCg.CompEnd.intro F5 N5 _ (fun p hp => hp) off5 trivial (ih _ ?_)
      show StrsAre _ (preW mask first i ++ (if mask.testBit i then [nmAt (first + i)] else []))
      rw [hb, if_pos rfl]
      exact strsAre_append _ _ hI
    · have hb' : mask.testBit i = false := by simpa using hb
      rw [hb', if_neg (by decide)]
      refine LCg.CompEnd.intro F5 N5 _ (fun p hp => hp) off5 trivial (ih _ ?_)
      show StrsAre _ (preW mask first i ++ (if mask.testBit i then [nmAt (first + i)] else []))
      rw [hb', if_neg (by decide), List.append_nil]
      exact hI
  · intro ys hys D h6 tk6 F6 N6 off6
    dsimp only
    have G6 : Lg g L' _ h6 _ := ⟨F6, N6, by
      rw [List.map_cons, List.nodup_cons]
      refine ⟨fun hm => ?_, G3.nd⟩
      obtain ⟨p, hp, e⟩ := List.mem_map.mp hm
      exact Off1.ne off6 p hp e⟩
    have hlen := preW_len (mask := mask) (first := first) 4
    refine wpAny_execs_cons ?_
    refine wpAny_Return_some ?_
    refine wpAny_IfExp ?_
    refine wpAny_isTrue_Compare1 ?_
    refine nameX_L (s := ⟨h6, _, _, _, _⟩) G6.fr (if_pos rfl) ?_
    refine List_ (spliced_none ?_)
    refine wpAny_newObj_type ?_
    dsimp only
    have G7 := G6.alloc (listO [] 0)
    have ra : Reads (h6.push (listO [] 0)) (.ref D) (.list ((preW mask first 4).map PyData.str)) [D] := .list (G7.get (i := 1) rfl) rfl rfl (by simpa using readsStrs hys)
    have rb : Reads (h6.push (listO [] 0)) (.ref h6.objs.size) (.list []) [h6.objs.size] := .list (G7.get (i := 0) rfl) rfl rfl .nil
    refine ne_dataH (s := ⟨_, _, _, _, _⟩) ra rb (shapedStrs fun y hy => by obtain ⟨j, rfl⟩ := preW_mem 4 y hy; exact nm_ok j) (by decide) (by have := R.u; show A.units + 3 + 64 < _; omega) ?_
    rw [eqv_nil]
    refine wpAny_truthy_bool ?_
    by_cases q : preW mask first 4 = []
    · rw [decide_eq_true q, if_neg (by decide)]
      refine List_ (spliced_more (Calls.Constant_str (spliced_none ?_)))
      refine wpAny_newObj_type ?_ (by show 1 ≤ sizeLine; rw [sizeLine_eq]; omega)
      dsimp only
      have G8 := G7.alloc (listO [.str (Str.ofString "0x0") tk6] 0)
      refine h _ _ [.str (Str.ofString "0x0") tk6] 0 ?_ (back ⟨_, _, _, _, _⟩ _ _ (G8.drop (.cons_cons _ (.cons _ (.cons _ (.cons _ (.cons _ (.cons _ (.cons _ .slnil)))))))) rfl id)
      unfold wordsS
      rw [if_pos q]
      exact .cons _ _ .nil
    · rw [decide_eq_false q, if_pos (by decide)]
      refine nameX_L (s := ⟨_, _, _, _, _⟩) G7.fr (if_pos rfl) ?_
      refine h _ _ ys ys.length ?_ (back ⟨_, _, _, _, _⟩ _ _ (G7.drop (.cons _ (.cons_cons _ (.cons _ (.cons _ (.cons _ (.cons _ .slnil))))))) rfl id)
      unfold wordsS
      rw [if_neg q]
      exact hys
end
end Mine
end
section
open PySem PySem.W PyProof.Rows PySem.Calls PySem.Spec Builtin
set_option Elab.async false
set_option maxRecDepth 100000
set_option maxHeartbeats 4000000
set_option pp.maxSteps 3000
namespace Mine
theorem fillC3 (w : World) (h₀ : Heap) : (hd.heap_1 w.params).In h₀ → PySem.Challenge.rw_zd0011_01.Holds → True := by k_fill; intros; trivial
noncomputable abbrev comS : Str := Str.ofString ","
/-- the rows that the law reckons -/
noncomputable def rowsGo (wd : Int) : List Str → Str → List Str → List Str
  | done, cur, [] => done ++ [cur ++ Str.ofString ")"]
  | done, cur, y :: ys => if wd < ((cur ++ comS).length : Int) + (y.length : Int) + 2 then rowsGo wd (done ++ [cur ++ comS]) (Str.ofString " " ++ y) ys else rowsGo wd done ((cur ++ comS) ++ (Str.ofString " " ++ y)) ys
section
variable {w : World} {mg mb : Str → Option Value} {A : Around} {s : Shared} {h₀ h : Heap} {L K : Addr} {m : Str → Option Value} {l la r rest news : List (Addr × Obj)} {Q E : Value → Shared → Prop}
/-- the last item of a list -/
theorem get_last {a : Addr} {vs : List Value} {v : Value} {n i : Nat} {t : Tok} (G : Lg h₀ L m s.heap (la ++ r)) (hi : r[i]? = some (a, listO (vs ++ [v]) n)) (hz : vs.length ≤ 1000) (h : Q v s) : wpAny (model PP w) A (getItem (.ref a) (.int (-1) t)) Q E s := by
  have hsz : (vs ++ [v]).toArray.size = vs.length + 1 := by simp
  refine wpAny_getItem_list_neg (items := (vs ++ [v]).toArray) ⟨_, G.getR hi, rfl, _, rfl⟩ (by decide) (by rw [hsz]; omega) (by decide) (x := v) ?_ h
  rw [hsz, show ((-1 : Int) + ((vs.length + 1 : Nat) : Int)).toNat = vs.length by omega]
  simp
theorem set_last {a : Addr} {vs : List Value} {v v' : Value} {n i : Nat} {t : Tok} {Q : Unit → Shared → Prop} (G : Lg h₀ L m s.heap (la ++ r)) (hi : r[i]? = some (a, listO (vs ++ [v]) n)) (hz : vs.length ≤ 1000)
    (h : ∀ h' n', Lg h₀ L m h' (la ++ r.set i (a, listO (vs ++ [v']) n')) → Q () { s with heap := h' }) : wpAny (model PP w) A (setItem (.ref a) (.int (-1) t) v') Q E s := by
  have hx := G.getR hi
  have hT : s.TypeIs (.ref a) "list" := ⟨_, hx, rfl⟩
  have hsz : (vs ++ [v]).toArray.size = vs.length + 1 := by simp
  unfold setItem
  refine wpAny_holding (wpAny_bind (wpAny_sequenceKey hT (by decide) ?_))
  refine wpAny_bind (wpAny_callSpecial?_slot (name := Str.ofString "__setitem__") hT slot_list_setitem (wpAny_call_entry slot_list_setitem hT entry_list_setitem ?_ (args_list_setitem _ _ _)))
  show wpAny _ _ (Builtin.List.listSubscript? (.int (-1) t) >>= _) _ _ s
  refine wpAny_bind (wpAny_listSubscript_int (fitsIndex_neg (by decide) (by decide)) ?_)
  have hidx : seqIndex? (-1) (vs ++ [v]).toArray.size = some vs.length := by
    rw [hsz, seqIndex_neg (by decide) (by omega)]
    congr 1
    omega
  show wpAny _ _ ((Builtin.List.listItems (.ref a) >>= fun xs => pure ((seqIndex? (-1) xs.size).bind fun i => xs[i]?.map (i, ·))) >>= _) _ _ s
  refine wpAny_bind (wpAny_bind ?_)
  show wpAny _ _ (seqItems? (.ref a) >>= _) _ _ s
  refine wpAny_bind (wpAny_seqItems hx rfl (wpAny_pure (wpAny_pure ?_)))
  rw [hidx]
  have e1 : (vs ++ [v]).toArray[vs.length]? = some v := by simp
  simp only [Option.bind_some, e1, Option.map_some]
  show wpAny _ _ (setSeqItemAt a vs.length v' >>= _) _ _ s
  obtain ⟨n', q⟩ := mapSeq_list (vs ++ [v]) n (·.setIfInBounds vs.length v')
  have e2 : ((vs ++ [v]).toArray.setIfInBounds vs.length v').toList = vs ++ [v'] := by
    simp
  rw [e2] at q
  refine wpAny_bind (wpAny_setSeqItemAt hx rfl ?_)
  have := G.update (app_get (la := la) hi) (f := Obj.mapSeq (·.setIfInBounds vs.length v')) (by rw [q]; rfl)
  rw [q, app_set] at this
  first
    | exact wpAny_bind (wpAny_pure (wpAny_pure ⟨.none, rfl, wpAny_pure (h _ n' this)⟩))
    | exact wpAny_pure ⟨.none, rfl, wpAny_pure (h _ n' this)⟩
theorem str_len_app (a b : Str) : (a ++ b).length = a.length + b.length := Array.size_append
theorem c_rows {a : Addr} {vs : List Value} {n : Nat} {y0 : Str} {ys : List Str} {wd : Int} {tw : Tok} (ha : s.heap.get? a = some (listO vs n)) (hv : StrsAre vs (y0 :: ys)) (hz : ∀ y ∈ y0 :: ys, y.length ≤ 20) (hl : ys.length ≤ 10) (R : Rm A 7) (W : Wd w mg mb h₀) (G : Lg h₀ L m s.heap ([] ++ rest))
    (h : ∀ s' b us n', StrsAre us (rowsGo wd [] (Str.ofString "FLAGS (" ++ y0) ys) → Bk s h₀ L m [] rest s' [(b, listO us n')] → Q (.ref b) s') : wpAny (model PP w) A (call (.ref 236) [.ref a, .int wd tw]) Q E s := by
  obtain ⟨hh, gg, dd, tk0, oo⟩ := s
  dsimp only at G h ha
  refine call_def (cl := []) (core := []) (binds := [("words", .ref a), ("width", .int wd tw)]) W G (by k_is) rfl (by k_is) R.room (.of_eq rfl) (by rfl) ?_ (by decide)
  intro g L' h₁ W' kp G' back
  have ha' : g.get? a = some (listO vs n) := kp _ _ ha (by simp)
  have ha1 := G'.fr.keep _ _ ha'
  have hvl := strsAre_len hv
  simp only [List.length_cons] at hvl
  obtain ⟨t0, ht0⟩ := strsAre_at hv 0 y0 rfl
  have hy0 := hz y0 List.mem_cons_self
  refine wpAny_execs_cons ?_
  refine wpAny_Assign_Name ?_
  refine List_ ?_
  refine spliced_more (wpAny_BinOp (Calls.Constant_str ?_))
  refine Subscript_ (nameX_L G'.fr rfl (wpAny_Constant_int ?_))
  refine subscriptTail_builtin (T := "list") ⟨_, ha1, rfl⟩ list_getitem_lookup (wpAny_getItem_list (items := vs.toArray) ⟨_, ha1, rfl, _, rfl⟩ (by decide) (by decide) (x := .str y0 t0) (by simpa using ht0) ?_)
  refine SBL.add (fun t1 k1 _ => ?_) (size_fits' (by have : (Str.ofString "FLAGS (").length = 7 := by decide +kernel
                                                     omega))
  refine spliced_none ?_
  refine wpAny_newObj_type ?_ (by show 1 ≤ sizeLine; rw [sizeLine_eq]; omega)
  dsimp only
  have G2 := G'.app.allocR (listO [.str (Str.ofString "FLAGS (" ++ y0) t1] 0)
  refine storeN (s := ⟨_, _, _, _, _⟩) G2 fun h3 m3 e3 k3 G3 => ?_
  dsimp only
  have hw3 : m3 "words" = some (.ref a) := lk k3 rfl
  have hd3 : m3 "width" = some (.int wd tw) := lk k3 rfl
  refine wpAny_execs_cons ?_
  refine wpAny_For ?_
  refine Subscript_ (nameX_L (s := ⟨h3, _, _, _, _⟩) G3.fr hw3 ?_)
  refine wpAny_Slice ?_
  rw [evalPart_some, evalPart_none]
  refine wpAny_Constant_int (wpAny_pure (wpAny_pure ?_))
  dsimp only
  have ha3 := G3.fr.keep _ _ ha'
  have es : slicePick vs.toArray (some 1) none none = _ := slicePick_from vs.toArray 1 (by simp; omega)
  refine kmk_slice_lit (s := ⟨h3, gg, dd, k1 + 1 + 1, oo⟩) (zs := vs.drop 1) (its := vs.toArray) G3.fr G3.nw ⟨_, ha3, rfl, _, rfl⟩ (.int _ _) .none (by rw [es]) (fun D h4 F4 N4 hlt => ?_) (by rfl) (by intro _; rfl) (by rw [List.size_toArray]; exact size_fits' (by omega))
  dsimp only
  have G4 : Lg g L' m3 h4 ([] ++ [(D, listO (vs.drop 1) 0), (h₁.objs.size, listO [.str (Str.ofString "FLAGS (" ++ y0) t1] 0)]) := ⟨F4, N4, by
    show ([D, h₁.objs.size] : List Addr).Nodup
    have := hlt (h₁.objs.size, listO [.str (Str.ofString "FLAGS (" ++ y0) t1] 0) (by simp)
    simp only [List.nodup_cons, List.mem_singleton, List.not_mem_nil, not_false_eq_true, List.nodup_nil, and_true]
    exact Ne.symm (Nat.ne_of_lt this)⟩
  generalize h₁.objs.size = rl at G4 e3
  have hws : StrsAre (vs.drop 1) ys := by
    cases hv with
    | cons _ _ r => exact r
  refine wpAny_pyIter_list (s := ⟨h4, _, _, _, _⟩) (items := (vs.drop 1).toArray) ⟨_, G4.getR (i := 0) rfl, rfl, _, rfl⟩ ?_
  dsimp only
  have G5 := G4.allocR (iterO D)
  generalize h4.objs.size = it at G5 ⊢
  generalize hwv : vs.drop 1 = wv at G5 hws
  have hwl := strsAre_len hws
  clear G4 F4 N4 hlt es ha1 ha3 G2 G3
  refine codeAny_mono (R := fun r s' => r = .ok .next ∧ ∃ hX m' us n, s'.heap = hX ∧ s'.os = oo ∧ s'.gens = gg ∧ m' "rows" = some (.ref rl) ∧
      ∃ done cur tc, StrsAre us done ∧ rowsGo wd [] (Str.ofString "FLAGS (" ++ y0) ys = done ++ [cur ++ Str.ofString ")"] ∧ cur.length ≤ 1000 ∧ us.length ≤ 20 ∧ Lg g L' m' hX ([] ++ [(rl, listO (us ++ [.str cur tc]) n)])) ?_ (fun r s' hr => ?_)
  · refine loop_inv (I := fun k s' => ∃ hX tX m' us done cur tc nr oit i, s' = ⟨hX, gg, dd, tX, oo⟩ ∧ i + k = ys.length ∧ StrsAre us done ∧ rowsGo wd [] (Str.ofString "FLAGS (" ++ y0) ys = rowsGo wd done cur (ys.drop i) ∧ cur.length ≤ 40 + 40 * i ∧ us.length ≤ i ∧
        m' "rows" = some (.ref rl) ∧ m' "width" = some (.int wd tw) ∧ hX.IsListIter it D i ∧ Lg g L' m' hX ([] ++ [(D, listO wv 0), (rl, listO (us ++ [.str cur tc]) nr), (it, oit)])) ?_ ys.length _
      ⟨_, _, _, [], [], _, t1, 0, _, 0, rfl, by simp, .nil, rfl, ?_, Nat.le_refl _, e3, hd3, ⟨_, G5.getR (i := 2) rfl, rfl, rfl⟩, G5⟩
    · rintro k ih s' ⟨hX, tX, m', us, done, cur, tc, nr, oit, i, rfl, hik, hus, hro, hcl, hul, hm1, hm2, hit, GX⟩
      refine for_turn ?_
      have hseq : SeqAt hX D wv := ⟨_, _, GX.getR (i := 0) rfl, rfl⟩
      cases k with
      | zero =>
        refine nextEnd (s := ⟨hX, _, _, _, _⟩) (R.deep (k := 6)).h hit hseq (by rw [List.getElem?_eq_none]; omega) fun h6 hx6 => ?_
        have G6 := Lg.loseLast (la := [] ++ [(D, listO wv 0), (rl, listO (us ++ [.str cur tc]) nr)]) (by simpa using GX) hx6
        refine wpAny_execs_nil ?_
        refine ⟨rfl, h6, m', us, nr, rfl, rfl, rfl, hm1, done, cur, tc, hus, ?_, by omega, by omega, G6.dropR (r' := [(rl, listO (us ++ [.str cur tc]) nr)]) (.cons _ (.refl _))⟩
        rw [hro, List.drop_of_length_le (by omega)]
        rfl
      | succ k =>
        obtain ⟨y, hy⟩ : ∃ y, ys[i]? = some y := ⟨ys[i]'(by omega), List.getElem?_eq_getElem (by omega)⟩
        obtain ⟨ty, hty⟩ := strsAre_at hws i y hy
        have hyz : y.length ≤ 20 := hz y (List.mem_cons_of_mem _ (List.mem_of_getElem? hy))
        have hdrop : ys.drop i = y :: ys.drop (i + 1) := by
          obtain ⟨hlt, he⟩ := List.getElem?_eq_some_iff.mp hy
          rw [List.drop_eq_getElem_cons hlt, he]
        rw [hdrop] at hro
        refine nextItem (s := ⟨hX, _, _, _, _⟩) hit hseq hty fun h6 hit6 hs6 => ?_
        obtain ⟨o6, ho6, hc6, hd6⟩ := id hit6
        have G6 := GX.writeR (i := 2) rfl hs6 ho6
        replace G6 : Lg g L' m' h6 ([] ++ [(D, listO wv 0), (rl, listO (us ++ [.str cur tc]) nr), (it, o6)]) := G6
        dsimp only
        refine wpAny_assign_Name ?_
        refine storeN (s := ⟨h6, _, _, _, _⟩) G6 fun h7 m7 e7 k7 G7 => ?_
        dsimp only
        have hr7 : m7 "rows" = some (.ref rl) := lk k7 hm1
        have hw7 : m7 "width" = some (.int wd tw) := lk k7 hm2
        refine wpAny_execs_cons ?_
        refine wpAny_AugAssign_Subscript_any ?_
        refine nameX_L (s := ⟨h7, _, _, _, _⟩) G7.fr hr7 ?_
        refine UnaryOp_ (wpAny_Constant_int (neg_int ?_))
        dsimp only
        refine get_last (s := ⟨h7, _, _, _, _⟩) G7 (i := 1) rfl (by omega) ?_
        refine Calls.Constant_str ?_
        refine PyProof.Rows.iadd_str (fun t8 k8 => ?_) (size_fits' (by have : (Str.ofString ",").length = 1 := by decide +kernel
                                                                       omega))
        dsimp only
        refine set_last (s := ⟨h7, _, _, _, _⟩) G7 (i := 1) rfl (by omega) fun h9 n9 G9 => ?_
        replace G9 : Lg g L' m7 h9 ([] ++ [(D, listO wv 0), (rl, listO (us ++ [.str (cur ++ comS) t8]) n9), (it, o6)]) := G9
        dsimp only
        have hcl9 : (cur ++ comS).length = cur.length + 1 := str_len_app _ _
        refine wpAny_execs_cons ?_
        refine wpAny_If ?_
        refine wpAny_isTrue_Compare1 ?_
        refine wpAny_BinOp (wpAny_BinOp (Call_ ?_))
        refine nameX_B (s := ⟨h9, _, _, _, _⟩) G9.fr W'.X W'.T (by k_is) (by boot_by_name) (by decide) ?_
        refine PyProof.Rows.callWith_builtin1 (spliced_more (Subscript_ (nameX_L (s := ⟨h9, _, _, _, _⟩) G9.fr hr7 ?_)))
        refine UnaryOp_ (wpAny_Constant_int (neg_int ?_))
        dsimp only
        refine subscriptTail_builtin (s := ⟨h9, _, _, _, _⟩) (T := "list") ⟨_, G9.getR (i := 1) rfl, rfl⟩ list_getitem_lookup (get_last (s := ⟨h9, _, _, _, _⟩) G9 (i := 1) rfl (by omega) ?_)
        refine spliced_none ?_
        refine SBL.len (by omega) ?_
        dsimp only
        refine Call_ ?_
        refine nameX_B (s := ⟨h9, _, _, _, _⟩) G9.fr W'.X W'.T (by k_is) (by boot_by_name) (by decide) ?_
        refine PyProof.Rows.callWith_builtin1 (spliced_more (nameX_L (s := ⟨h9, _, _, _, _⟩) G9.fr e7 (spliced_none ?_)))
        refine SBL.len (by omega) ?_
        refine PyProof.Rows.add_int ?_
        refine wpAny_Constant_int (PyProof.Rows.add_int ?_)
        dsimp only
        refine nameX_L (s := ⟨h9, _, _, _, _⟩) G9.fr hw7 ?_
        refine PyProof.Rows.gt_int ?_
        refine wpAny_truthy_bool ?_
        have hsp : (Str.ofString " " ++ y).length = 1 + y.length := str_len_app _ _
        by_cases hc : wd < ((cur ++ comS).length : Int) + (y.length : Int) + 2
        · rw [decide_eq_true hc, if_pos rfl]
          have hro2 : rowsGo wd done cur (y :: ys.drop (i + 1)) = rowsGo wd (done ++ [cur ++ comS]) (Str.ofString " " ++ y) (ys.drop (i + 1)) := if_pos hc
          rw [hro2] at hro
          refine wpAny_execs_cons (wpAny_Expr_any ?_)
          refine MethodCall_ ?_
          refine nameX_L (s := ⟨h9, _, _, _, _⟩) G9.fr hr7 ?_
          refine Calls.getMethod_list_append (s := ⟨h9, _, _, _, _⟩) (G9.getR (i := 1) rfl) rfl rfl ?_
          refine callWith_method1 (spliced_more (wpAny_BinOp (Calls.Constant_str (nameX_L (s := ⟨h9, _, _, _, _⟩) G9.fr e7 ?_))))
          refine SBL.add (fun t10 k10 _ => ?_) (size_fits' (by have : (Str.ofString " ").length = 1 := by decide +kernel
                                                               omega))
          dsimp only
          refine spliced_none ?_
          refine lst_append (s := ⟨h9, _, _, _, _⟩) (la := []) G9 (i := 1) rfl (by simp; omega) fun h11 n11 G11 _ => ?_
          replace G11 : Lg g L' m7 h11 ([] ++ [(D, listO wv 0), (rl, listO ((us ++ [.str (cur ++ comS) t8]) ++ [.str (Str.ofString " " ++ y) t10]) n11), (it, o6)]) := G11
          dsimp only
          refine wpAny_execs_nil ?_
          dsimp only
          refine wpAny_execs_nil ?_
          refine ih k _ (Nat.lt_succ_self _) ⟨h11, _, m7, us ++ [.str (cur ++ comS) t8], done ++ [cur ++ comS], Str.ofString " " ++ y, t10, n11, o6, i + 1, rfl, by omega, strsAre_append _ _ hus, hro, by omega, by simp; omega, hr7, hw7, ⟨o6, G11.getR (i := 2) rfl, hc6, hd6⟩, G11⟩
        · rw [decide_eq_false hc, if_neg (by decide)]
          have hro2 : rowsGo wd done cur (y :: ys.drop (i + 1)) = rowsGo wd done ((cur ++ comS) ++ (Str.ofString " " ++ y)) (ys.drop (i + 1)) := if_neg hc
          rw [hro2] at hro
          refine wpAny_execs_cons ?_
          refine wpAny_AugAssign_Subscript_any ?_
          refine nameX_L (s := ⟨h9, _, _, _, _⟩) G9.fr hr7 ?_
          refine UnaryOp_ (wpAny_Constant_int (neg_int ?_))
          dsimp only
          refine get_last (s := ⟨h9, _, _, _, _⟩) G9 (i := 1) rfl (by omega) ?_
          refine wpAny_BinOp (Calls.Constant_str (nameX_L (s := ⟨h9, _, _, _, _⟩) G9.fr e7 ?_))
          refine SBL.add (fun t10 k10 _ => ?_) (size_fits' (by have : (Str.ofString " ").length = 1 := by decide +kernel
                                                               omega))
          dsimp only
          refine PyProof.Rows.iadd_str (fun t11 k11 => ?_) (size_fits' (by omega))
          dsimp only
          refine set_last (s := ⟨h9, _, _, _, _⟩) G9 (i := 1) rfl (by omega) fun h11 n11 G11 => ?_
          replace G11 : Lg g L' m7 h11 ([] ++ [(D, listO wv 0), (rl, listO (us ++ [.str ((cur ++ comS) ++ (Str.ofString " " ++ y)) t11]) n11), (it, o6)]) := G11
          dsimp only
          refine wpAny_execs_nil ?_
          dsimp only
          refine wpAny_execs_nil ?_
          refine ih k _ (Nat.lt_succ_self _) ⟨h11, _, m7, us, done, (cur ++ comS) ++ (Str.ofString " " ++ y), t11, n11, o6, i + 1, rfl, by omega, hus, hro, by rw [str_len_app]; omega, by omega, hr7, hw7, ⟨o6, G11.getR (i := 2) rfl, hc6, hd6⟩, G11⟩
    · have : (Str.ofString "FLAGS (").length = 7 := by decide +kernel
      rw [str_len_app]
      omega
  · obtain ⟨rfl, hX, m', us, n6, e1, e2, e4, hm1, done, cur, tc, hus, hro, hcl, hul, GX⟩ := hr
    obtain ⟨hX', gX, dX, tX, oX⟩ := s'
    dsimp only at e1 e2 e4
    subst e1 e2 e4
    dsimp only
    refine wpAny_execs_cons ?_
    refine wpAny_AugAssign_Subscript_any ?_
    refine nameX_L (s := ⟨hX', _, _, _, _⟩) GX.fr hm1 ?_
    refine UnaryOp_ (wpAny_Constant_int (neg_int ?_))
    dsimp only
    refine get_last (s := ⟨hX', _, _, _, _⟩) GX (i := 0) rfl (by omega) ?_
    refine Calls.Constant_str ?_
    refine PyProof.Rows.iadd_str (fun t8 k8 => ?_) (size_fits' (by have : (Str.ofString ")").length = 1 := by decide +kernel
                                                                   omega))
    dsimp only
    refine set_last (s := ⟨hX', _, _, _, _⟩) GX (i := 0) rfl (by omega) fun h9 n9 G9 => ?_
    replace G9 : Lg _ L' m' h9 ([] ++ [(rl, listO (us ++ [.str (cur ++ Str.ofString ")") t8]) n9)]) := G9
    dsimp only
    refine wpAny_execs_cons ?_
    refine wpAny_Return_some ?_
    refine nameX_L (s := ⟨h9, _, _, _, _⟩) G9.fr hm1 ?_
    refine h _ _ _ n9 ?_ (back ⟨_, _, _, _, _⟩ _ _ G9 rfl id)
    rw [hro]
    exact strsAre_append _ _ hus
end
end Mine
end
section
open PySem PySem.W PyProof.Rows PySem.Calls PySem.Spec Builtin
set_option Elab.async false
set_option maxRecDepth 100000
set_option maxHeartbeats 4000000
set_option pp.maxSteps 3000
namespace Mine
theorem fillL0 (w : World) (h₀ : Heap) : (hd.heap_1 w.params).In h₀ → PySem.Challenge.rw_zd0011_01.Holds → True := by k_fill; intros; trivial
noncomputable def bodyOf : Stmt → List Stmt
  | .FunctionDef _ _ b _ _ _ _ _ _ _ => b
  | .For _ _ b _ _ => b
  | _ => []
noncomputable def scopeOf : Stmt → Scope
  | .FunctionDef _ _ _ _ _ _ s _ _ _ => s
  | _ => default
noncomputable def lawDef : Stmt := PP.main.body.getLast?.getD (.Pass default)
noncomputable def lawBody : List Stmt := bodyOf lawDef
noncomputable def lawScope : Scope := scopeOf lawDef
noncomputable def lawFor1 : List Stmt := bodyOf (lawBody.getD 6 (.Pass default))
noncomputable def lawFor2 : List Stmt := bodyOf (lawBody.getD 10 (.Pass default))
noncomputable abbrev lawEnv (L fa : Addr) (cd : Value) : Env := envX (Str.ofString "law") lawScope L fa cd (cellsFrom (L + 1) lawScope.names [])
example : lawBody.length = 12 := by rfl
end Mine
end
section
open PySem PySem.W PyProof.Rows PySem.Calls PySem.Spec Builtin
set_option Elab.async false
set_option maxRecDepth 100000
set_option maxHeartbeats 4000000
set_option pp.maxSteps 3000
namespace Mine
section
variable {A : Around} {s : Shared}
theorem bytes_beq (b c : Array UInt8) : (b.toList == c.toList) = (b == c) := by
  rw [Bool.eq_iff_iff, beq_iff_eq, beq_iff_eq]
  exact ⟨fun h => Array.toList_inj.mp h, fun h => by rw [h]⟩
theorem RcAtB (b : Array UInt8) (t : Tok) (c : Array UInt8) (u : Tok) : PySem.SeqAt.RcAt A s (.bytes b t) (.bytes c u) (b == c) := fun prog w E Q h =>
  richCompare_gives (typeIs_bytes s b t) (typeIs_bytes s c u) FB.slot_bytes_eq FB.entry_bytes_eq (FB.args_bytes_eq_2 _ _) (gives_bytes_eq b c t u) (by simp [Made.takes]) (by rw [bytes_beq]; exact h)
theorem EqAtB (b : Array UInt8) (t : Tok) (c : Array UInt8) (u : Tok) : PySem.SeqAt.EqAt A s (.bytes b t) (.bytes c u) (b == c) := fun prog w E Q h => by
  unfold eqBool
  refine wpAny_holding ?_
  refine wpAny_ite_split (fun hab => ?_) (fun _ => ?_)
  · have e := eq_of_beq hab
    injection e with e1 e2
    subst e1
    rw [show (b == b) = true from beq_self_eq_true b] at h
    exact wpAny_bind (wpAny_rule (wpAny_pure h))
  · exact wpAny_bind (RcAtB b t c u prog w E _ (wpAny_truthy_bool h))
end
section
variable {w : World} {mg mb : Str → Option Value} {A : Around} {s : Shared} {h₀ h : Heap} {L K : Addr} {m : Str → Option Value} {env : Env} {E : Value → Shared → Prop}
noncomputable def TupIn (ax : Addr) (its : List Value) (news : List (Addr × Obj)) : Prop := (ax, tupObj its) ∈ news
theorem TupIn.tup {ax : Addr} {its : List Value} {news : List (Addr × Obj)} (x : TupIn ax its news) (N : News h₀ L h news) : h.IsTuple ax its.toArray := ⟨_, (N _ x).1, rfl, _, rfl⟩
/-- a list comprehension with a test over a tuple of the call's own -/
theorem ListComp_tup {ct elt iter : PySem.Expr} {x : Str} {px : Pos} {scope : Scope} {cl : List (Str × Addr)} {pos : Pos} {Q : Value → Shared → Prop}
    (hclos : closureFor scope env = pure cl) (hcell : ∀ y ∈ scope.names, y.2 ≠ .cell) (hkind : scope.kind = .function)
    (hnames : ∀ y ∈ scope.names, y.2 = .local → scope.names.lookup y.1 = some .local) (hx : scope.names.lookup x = some .local)
    (h : wpAny (model PP w) A (PySem.eval iter env) (fun xv s₁ => ∃ ax its news, xv = .ref ax ∧ A.handled = none ∧ Fr h₀ L s₁.heap m ∧ News h₀ L s₁.heap news ∧ TupIn ax its news ∧ its.length ≤ sizeLine ∧
      ∀ s₂ : Shared, (∃ g, s₂ = { s₁ with heap := g }) → LCt.CompRestT PP w A h₀ L m env ct elt x scope cl s₂ (TupIn ax its) (fun i v => its[i]? = some v) (LCg.FinE h₀ L m s₂ Q) its.length 0 [] news) E s)
    (hs : ∀ x, foldedSetIterable iter env x = pure x := by intro _; rfl) :
    wpAny (model PP w) A (PySem.eval (.ListComp elt [⟨.Name x px, iter, [ct], 0⟩] scope pos) env) Q E s := by
  rw [eval_ListComp]
  refine wpAny_comprehension_free (use := none) rfl hs hclos hkind hnames (wpAny_mono h (fun xv s₁ h₁ => ?_) fun _ _ e => e)
  obtain ⟨ax, its, news, rfl, hh, F, N, S, hsz, R⟩ := h₁
  have hl := S.tup N
  have hlt : ax < s₁.heap.objs.size := Heap.lt_size (N _ S).1
  refine wpAny_pyIter_tuple hl ?_
  have up : ∀ b o, s₁.heap.get? b = some o → (s₁.heap.push { cls := .type "tuple_iterator", data := .fields #[.ref ax, .int 0 0] }).get? b = some o := fun b o e => Heap.get?_push_of_some _ e
  refine LCt.block_T (Walks.tuple hh s₁.heap.objs.size ax (Nat.ne_of_lt hlt) its.toArray) (by rw [List.size_toArray]; exact hsz) (fun i h st => by obtain ⟨o, e, _⟩ := st.1; exact ⟨o, e⟩)
    (fun i g g' o nw st e e' k N' S' => ⟨by obtain ⟨o', q, r⟩ := st.1; rw [e] at q; cases q; exact ⟨o, e', r⟩, TupIn.tup S' N'⟩) hcell hkind hx ⟨⟨_, Heap.get?_push_size _ rfl, rfl, rfl⟩, hl.push _⟩ (fun b hb => ?_)
    (F.keeps up) (N.grown up) (Nat.ne_of_lt F.ns.lt) (next_is_new F) (fun p hp => Nat.ne_of_lt (Heap.lt_size (N p hp).1)) S (by
      have := R _ ⟨s₁.heap.push { cls := .type "tuple_iterator", data := .fields #[.ref ax, .int 0 0] }, rfl⟩
      simpa using this) ?_
  · show b < (s₁.heap.push _).objs.size
    rw [Heap.size_push]
    rcases List.mem_cons.mp hb with rfl | hb
    · exact Nat.lt_succ_self _
    · rw [List.mem_singleton.mp hb]; exact Nat.lt_succ_of_lt hlt
  · intro D C h' tk m' ys news' F' N' o1 hn hC₀ hD₀ hCL hDL hCD offC fin
    refine ⟨m', hn, fun h'' hs'' => fin D h'' tk (F'.change hs'' hCL hC₀) (fun p hp => ?_) o1⟩
    refine ⟨hs''.extBut _ _ ?_ (N' p hp).1, (N' p hp).2⟩
    rcases List.mem_cons.mp hp with rfl | hp
    · exact Ne.symm hCD
    · exact offC p hp

/-- what was heard: a list for each message -/
inductive HeardAre : List Value → List (Addr × Obj) → List (List Str) → Prop
  | nil : HeardAre [] [] []
  | cons {a : Addr} {vs : List Value} {n : Nat} {ys : List Str} {hv rl hs} : StrsAre vs ys → HeardAre hv rl hs → HeardAre (.ref a :: hv) ((a, listO vs n) :: rl) (ys :: hs)
theorem HeardAre.snoc {a : Addr} {vs : List Value} {n : Nat} {ys : List Str} (hy : StrsAre vs ys) : ∀ {hv rl hs}, HeardAre hv rl hs → HeardAre (hv ++ [.ref a]) (rl ++ [(a, listO vs n)]) (hs ++ [ys])
  | _, _, _, .nil => .cons hy .nil
  | _, _, _, .cons x r => .cons x (HeardAre.snoc hy r)
theorem HeardAre.len : ∀ {hv rl hs}, HeardAre hv rl hs → hv.length = hs.length ∧ rl.length = hs.length
  | _, _, _, .nil => ⟨rfl, rfl⟩
  | _, _, _, .cons x r => by
    have := HeardAre.len r
    simp [this.1, this.2]
theorem HeardAre.at : ∀ {hv rl hs}, HeardAre hv rl hs → ∀ (i : Nat) (ys : List Str), hs[i]? = some ys → ∃ a vs n, hv[i]? = some (.ref a) ∧ (a, listO vs n) ∈ rl ∧ StrsAre vs ys
  | _, _, _, .nil, i, ys, h => by simp at h
  | _, _, _, .cons x r, 0, ys, h => by simp at h; subst h; exact ⟨_, _, _, rfl, List.mem_cons_self, x⟩
  | _, _, _, .cons x r, i + 1, ys, h => by
    obtain ⟨a, vs, n, h1, h2, h3⟩ := HeardAre.at r i ys (by simpa using h)
    exact ⟨a, vs, n, by simpa using h1, List.mem_cons_of_mem _ h2, h3⟩
end
end Mine
end
section
open PySem PySem.W PyProof.Rows PySem.Calls PySem.Spec Builtin
set_option Elab.async false
set_option maxRecDepth 100000
set_option maxHeartbeats 4000000
set_option pp.maxSteps 3000
namespace Mine
noncomputable abbrev tl (y : Str) : List Nat := y.cps.toList
theorem str_ext {a b : Str} (h : tl a = tl b) : a = b := by
  obtain ⟨x⟩ := a
  obtain ⟨y⟩ := b
  congr 1
  exact Array.toList_inj.mp h
theorem tl_app (a b : Str) : tl (a ++ b) = tl a ++ tl b := Array.toList_append
theorem tl_strOf (q : List Nat) : tl (strOf q) = q := rfl
theorem len_tl (y : Str) : y.length = (tl y).length := by show y.cps.size = _; simp
theorem join_two (sep x y : Str) (r : List Str) : Txt.join sep (x :: y :: r) = x ++ sep ++ Txt.join sep (y :: r) := by
  show Builtin.Str.glued sep _ = _ ++ _ ++ Builtin.Str.glued sep _
  rw [StrLaws.glued_eq_join, StrLaws.glued_eq_join]
  rfl
theorem join_one' (sep x : Str) : Txt.join sep [x] = x := by
  show Builtin.Str.glued sep _ = _
  rw [StrLaws.glued_eq_join]
  rfl
theorem tl_join (sep : Str) : ∀ (y : Str) (ys : List Str), tl (Txt.join sep (y :: ys)) = tl y ++ ys.flatMap fun z => tl sep ++ tl z
  | y, [] => by rw [join_one']; simp
  | y, z :: r => by
    rw [join_two, tl_app, tl_app, tl_join sep z r]
    simp
theorem tail_eq : ∀ mask, mask < 16 → ∀ first, first < 8 → tailN 32 0 (mask * 2 ^ first) = wordsS mask first := by decide +kernel

theorem eOne_tl (e : Ent) : tl (eOne e) = tl e.1 ++ tl e.2 := by
  rw [show eOne e = Txt.join (Str.ofString "") [e.1, e.2] from rfl, tl_join]
  have : tl (Str.ofString "") = [] := by decide
  simp [this]
theorem eStr_tl : ∀ es : List Ent, tl (eStr es) = es.flatMap fun e => tl e.1 ++ tl e.2
  | [] => by decide
  | e :: r => by
    rw [show eStr (e :: r) = Txt.join (Str.ofString "") (eOne e :: r.map eOne) from rfl, tl_join, eOne_tl]
    have : tl (Str.ofString "") = [] := by decide
    rw [this]
    simp only [List.nil_append, List.flatMap_map, List.flatMap_cons, eOne_tl]
theorem elen_eq (es : List Ent) : elen es = (eStr es).length := by
  rw [len_tl, eStr_tl]
  unfold elen
  induction es with
  | nil => rfl
  | cons e r ih =>
    rw [List.flatMap_cons, List.length_append, List.map_cons, List.sum_cons, ih, List.length_append, len_tl, len_tl]
/-- a word: a few signs, none of them white, a bracket or a comma -/
structure Word (y : Str) : Prop where
  len : y.length ≤ 20
  pos : tl y ≠ []
  ok : ∀ c ∈ tl y, 33 ≤ c ∧ c < 127 ∧ c ≠ 40 ∧ c ≠ 41 ∧ c ≠ 44
theorem word_nm (j : Nat) (h : j < 11) : Word (nmAt j) := by
  have a : ∀ j, j < 11 → (nmAt j).length ≤ 20 ∧ tl (nmAt j) ≠ [] ∧ ∀ c ∈ tl (nmAt j), 33 ≤ c ∧ c < 127 ∧ c ≠ 40 ∧ c ≠ 41 ∧ c ≠ 44 := by decide +kernel
  exact ⟨(a j h).1, (a j h).2.1, (a j h).2.2⟩
theorem word_zero : Word (Str.ofString "0x0") := ⟨by decide +kernel, by decide +kernel, by decide +kernel⟩

noncomputable def pcT : List Str → List (List Nat)
  | [] => []
  | [y] => [tl y ++ [41]]
  | y :: z :: r => (tl y ++ [44]) :: pcT (z :: r)
theorem pcT_join : ∀ (y : Str) (ys : List Str), joinSp (pcT (y :: ys)) = (tl y ++ ys.flatMap fun z => [44, 32] ++ tl z) ++ [41]
  | y, [] => by simp [pcT, joinSp]
  | y, z :: r => by
    have ih := pcT_join z r
    have e : pcT (y :: z :: r) = (tl y ++ [44]) :: pcT (z :: r) := rfl
    rw [e]
    have : ∃ p q, pcT (z :: r) = p :: q := by
      cases r with
      | nil => exact ⟨_, _, rfl⟩
      | cons x r => exact ⟨_, _, rfl⟩
    obtain ⟨p, q, hpq⟩ := this
    have e2 : joinSp ((tl y ++ [44]) :: pcT (z :: r)) = (tl y ++ [44]) ++ 32 :: joinSp (pcT (z :: r)) := by rw [hpq]; rfl
    rw [e2, ih]
    simp
noncomputable abbrev ch (ys : List Str) : List Ent := (pcT ys).map fun q => (Str.ofString " ", strOf q)

theorem len_strOf (q : List Nat) : (strOf q).length = q.length := by show q.toArray.size = _; simp
theorem item_last (l : List Nat) (c : Nat) : Txt.item (strOf (l ++ [c])) (-1) = ({ cps := #[c] } : Str) := by
  unfold Txt.item
  congr 1
  congr 1
  congr 1
  unfold Txt.charAt
  have e : seqIndex? (-1) (strOf (l ++ [c])).length = some l.length := by
    rw [len_strOf, List.length_append, seqIndex_neg (by decide) (by simp; omega)]
    congr 1
    simp
    omega
  rw [e]
  simp

theorem rowsGo_cut {wd : Int} {done : List Str} {cur y : Str} {ys : List Str} (h : wd < ((cur ++ comS).length : Int) + (y.length : Int) + 2) : rowsGo wd done cur (y :: ys) = rowsGo wd (done ++ [cur ++ comS]) (Str.ofString " " ++ y) ys := if_pos h
theorem rowsGo_fit {wd : Int} {done : List Str} {cur y : Str} {ys : List Str} (h : ¬ wd < ((cur ++ comS).length : Int) + (y.length : Int) + 2) : rowsGo wd done cur (y :: ys) = rowsGo wd done ((cur ++ comS) ++ (Str.ofString " " ++ y)) ys := if_neg h
theorem comma_strOf (l : List Nat) : comma (strOf (l ++ [44])) := by
  unfold comma
  rw [item_last]
  exact beq_self_eq_true _
theorem tl_sp : tl (Str.ofString " ") = [32] := by decide +kernel
theorem tl_com : tl comS = [44] := by decide +kernel
theorem tl_shut : tl (Str.ofString ")") = [41] := by decide +kernel
theorem eStr_snoc (es : List Ent) (e : Ent) : tl (eStr (es ++ [e])) = tl (eStr es) ++ (tl e.1 ++ tl e.2) := by rw [eStr_tl, eStr_tl]; simp
theorem eStr_one (e : Ent) : tl (eStr [e]) = tl e.1 ++ tl e.2 := by rw [eStr_tl]; simp
noncomputable abbrev Sm (es : List Ent) : Prop := ∀ e ∈ es, e.1.length ≤ 1000 ∧ e.2.length ≤ 1000
theorem len_sp : (Str.ofString " ").length = 1 := by decide +kernel
theorem len_com : comS.length = 1 := by decide +kernel

theorem steps_words {wd : Int} : ∀ (ys : List Str) (done : List Str) (es es0 : List Ent) (f0 p0 cur : Str), ys ≠ [] → (∀ y ∈ ys, Word y) → es = es0 ++ [(f0, p0)] → 1 ≤ p0.length → comma p0 → tl (eStr es) = tl cur ++ [44] → Sm es →
    ∃ rows' e0 l, Steps wd done es (ch ys) rows' (e0 ++ [(Str.ofString " ", strOf (l ++ [41]))]) ∧ rows' ++ [eStr (e0 ++ [(Str.ofString " ", strOf (l ++ [41]))])] = rowsGo wd done cur ys ∧ Sm (e0 ++ [(Str.ofString " ", strOf (l ++ [41]))]) ∧ (∀ c ∈ l, c < 127)
  | [], _, _, _, _, _, _, hne, _, _, _, _, _, _ => absurd rfl hne
  | [y], done, es, es0, f0, p0, cur, _, hw, he, h1, h2, h3, hz => by
    have wy := hw y List.mem_cons_self
    have hlen : elen (es ++ [(Str.ofString " ", strOf (tl y ++ [41]))]) = (cur ++ comS).length + y.length + 2 := by
      rw [elen_eq, len_tl, eStr_snoc, h3, str_len_app, len_tl cur, len_com, len_tl y]
      have := tl_sp
      simp [this]
      omega
    have hsm : Sm [(Str.ofString " ", strOf (tl y ++ [41]))] := fun e hm => by
      rw [List.mem_singleton.mp hm]
      have := wy.len
      rw [len_tl] at this
      refine ⟨by rw [len_sp]; omega, by rw [len_strOf, List.length_append]; show (tl y).length + 1 ≤ 1000; omega⟩
    have hl127 : ∀ c ∈ tl y, c < 127 := fun c hc => (wy.ok c hc).2.1
    by_cases hc : wd < ((cur ++ comS).length : Int) + (y.length : Int) + 2
    · refine ⟨done ++ [eStr es], [], tl y, .cons (.cut (by rw [hlen]; omega) he h1 h2) .nil, ?_, hsm, hl127⟩
      rw [rowsGo_cut hc]
      have e1 : eStr es = cur ++ comS := str_ext (by rw [h3, tl_app, tl_com])
      have e2 : eStr ([] ++ [(Str.ofString " ", strOf (tl y ++ [41]))]) = (Str.ofString " " ++ y) ++ Str.ofString ")" := str_ext (by
        rw [List.nil_append, eStr_one, tl_app, tl_app, tl_shut]; simp)
      rw [e1, e2]
      rfl
    · refine ⟨done, es, tl y, .cons (.fit (by rw [hlen]; omega)) .nil, ?_, fun e hm => ?_, hl127⟩
      · rw [rowsGo_fit hc]
        have e2 : eStr (es ++ [(Str.ofString " ", strOf (tl y ++ [41]))]) = ((cur ++ comS) ++ (Str.ofString " " ++ y)) ++ Str.ofString ")" := str_ext (by
          rw [eStr_snoc, h3, tl_app, tl_app, tl_app, tl_app, tl_com, tl_shut]; simp)
        rw [e2]
        rfl
      · rcases List.mem_append.mp hm with hm | hm
        · exact hz e hm
        · exact hsm e hm
  | y :: z :: r, done, es, es0, f0, p0, cur, _, hw, he, h1, h2, h3, hz => by
    have wy := hw y List.mem_cons_self
    have hlen : elen (es ++ [(Str.ofString " ", strOf (tl y ++ [44]))]) = (cur ++ comS).length + y.length + 2 := by
      rw [elen_eq, len_tl, eStr_snoc, h3, str_len_app, len_tl cur, len_com, len_tl y]
      have := tl_sp
      simp [this]
      omega
    have hsm : Sm [(Str.ofString " ", strOf (tl y ++ [44]))] := fun e hm => by
      rw [List.mem_singleton.mp hm]
      have := wy.len
      rw [len_tl] at this
      refine ⟨by rw [len_sp]; omega, by rw [len_strOf, List.length_append]; show (tl y).length + 1 ≤ 1000; omega⟩
    have hp : 1 ≤ (strOf (tl y ++ [44])).length := by rw [len_strOf]; simp
    by_cases hc : wd < ((cur ++ comS).length : Int) + (y.length : Int) + 2
    · have e1 : eStr es = cur ++ comS := str_ext (by rw [h3, tl_app, tl_com])
      obtain ⟨rows', e0, l, a, b, c, d⟩ := steps_words (z :: r) (done ++ [eStr es]) [(Str.ofString " ", strOf (tl y ++ [44]))] [] _ _ (Str.ofString " " ++ y) (by simp) (fun x hx => hw x (List.mem_cons_of_mem _ hx)) rfl hp (comma_strOf _) (by rw [eStr_one, tl_app]; simp) hsm
      refine ⟨rows', e0, l, .cons (.cut (by rw [hlen]; omega) he h1 h2) a, ?_, c, d⟩
      rw [b, rowsGo_cut hc, e1]
    · obtain ⟨rows', e0, l, a, b, c, d⟩ := steps_words (z :: r) done (es ++ [(Str.ofString " ", strOf (tl y ++ [44]))]) es _ _ ((cur ++ comS) ++ (Str.ofString " " ++ y)) (by simp) (fun x hx => hw x (List.mem_cons_of_mem _ hx)) rfl hp (comma_strOf _) (by
        rw [eStr_snoc, h3, tl_app, tl_app, tl_app, tl_com]; simp) (fun e hm => by
          rcases List.mem_append.mp hm with hm | hm
          · exact hz e hm
          · exact hsm e hm)
      refine ⟨rows', e0, l, .cons (.fit (by rw [hlen]; omega)) a, ?_, c, d⟩
      rw [b, rowsGo_fit hc]

/-- the whole of the chunks, from the word FLAGS on -/
noncomputable abbrev flS : Str := strOf [70, 76, 65, 71, 83]
noncomputable def prs (y0 : Str) : List Str → List Ent
  | [] => [(Str.ofString "", flS), (Str.ofString " ", strOf (40 :: (tl y0 ++ [41])))]
  | z :: r => (Str.ofString "", flS) :: (Str.ofString " ", strOf (40 :: (tl y0 ++ [44]))) :: ch (z :: r)
theorem comma_fl : (Txt.item flS (-1) == ({ cps := #[44] } : Str)) = false := by decide +kernel
theorem steps_all {wd : Int} {y0 : Str} {ys : List Str} (h0 : Word y0) (hw : ∀ y ∈ ys, Word y) :
    ∃ rows' e0 f l, Steps wd [] [] (prs y0 ys) rows' (e0 ++ [(f, strOf (l ++ [41]))]) ∧ rows' ++ [eStr (e0 ++ [(f, strOf (l ++ [41]))])] = rowsGo wd [] (Str.ofString "FLAGS (" ++ y0) ys ∧ Sm (e0 ++ [(f, strOf (l ++ [41]))]) ∧ (∀ c ∈ l, c < 127) ∧ f = Str.ofString " " := by
  have tfl : tl (Str.ofString "FLAGS (") = [70, 76, 65, 71, 83, 32, 40] := by decide +kernel
  have tem : tl (Str.ofString "") = [] := by decide +kernel
  have hl0 := h0.len
  rw [len_tl] at hl0
  have smf : Sm [(Str.ofString "", flS)] := fun e hm => by
    rw [List.mem_singleton.mp hm]
    exact ⟨by decide +kernel, by decide +kernel⟩
  have st1 : Step wd [] [] (Str.ofString "", flS) [] [(Str.ofString "", flS)] := by
    by_cases q : ((elen ([] ++ [(Str.ofString "", flS)]) : Nat) : Int) ≤ wd
    · exact .fit q
    · exact .push (by omega) (.inl rfl)
  have st2 : ∀ e, Step wd [] [(Str.ofString "", flS)] e [] [(Str.ofString "", flS), e] := fun e => by
    by_cases q : ((elen ([(Str.ofString "", flS)] ++ [e]) : Nat) : Int) ≤ wd
    · exact .fit q
    · exact .push (by omega) (.inr ⟨_, _, rfl, by decide +kernel, comma_fl⟩)
  cases ys with
  | nil =>
    refine ⟨[], [(Str.ofString "", flS)], Str.ofString " ", 40 :: tl y0, .cons st1 (.cons (st2 _) .nil), ?_, fun e hm => ?_, ?_, rfl⟩
    · have : eStr [(Str.ofString "", flS), (Str.ofString " ", strOf ((40 :: tl y0) ++ [41]))] = (Str.ofString "FLAGS (" ++ y0) ++ Str.ofString ")" := str_ext (by
        rw [eStr_tl, tl_app, tl_app, tfl, tl_shut]
        simp only [List.flatMap_cons, List.flatMap_nil, tem, tl_sp, tl_strOf]
        simp)
      show [] ++ [eStr [(Str.ofString "", flS), (Str.ofString " ", strOf ((40 :: tl y0) ++ [41]))]] = _
      rw [this]
      rfl
    · rcases List.mem_append.mp hm with hm | hm
      · exact smf e hm
      · rw [List.mem_singleton.mp hm]
        refine ⟨by rw [len_sp]; omega, by rw [len_strOf, List.length_append]; show (tl y0).length + 1 + 1 ≤ 1000; omega⟩
    · intro c hc
      rcases List.mem_cons.mp hc with rfl | hc
      · decide
      · exact (h0.ok c hc).2.1
  | cons z r =>
    have sm2 : Sm [(Str.ofString "", flS), (Str.ofString " ", strOf (40 :: (tl y0 ++ [44])))] := fun e hm => by
      rcases List.mem_cons.mp hm with rfl | hm
      · exact smf _ (List.mem_singleton.mpr rfl)
      · rw [List.mem_singleton.mp hm]
        refine ⟨by rw [len_sp]; omega, by rw [len_strOf, List.length_cons, List.length_append]; show (tl y0).length + 1 + 1 ≤ 1000; omega⟩
    have e40 : 40 :: (tl y0 ++ [44]) = (40 :: tl y0) ++ [44] := rfl
    have hcm : comma (strOf (40 :: (tl y0 ++ [44]))) := by rw [e40]; exact comma_strOf _
    have hp1 : 1 ≤ (strOf (40 :: (tl y0 ++ [44]))).length := by rw [len_strOf]; simp
    have htl : tl (eStr [(Str.ofString "", flS), (Str.ofString " ", strOf (40 :: (tl y0 ++ [44])))]) = tl (Str.ofString "FLAGS (" ++ y0) ++ [44] := by
      rw [eStr_tl, tl_app, tfl]
      simp only [List.flatMap_cons, List.flatMap_nil, tem, tl_sp, tl_strOf]
      simp
    have key := steps_words (wd := wd) (z :: r) [] [(Str.ofString "", flS), (Str.ofString " ", strOf (40 :: (tl y0 ++ [44])))] [(Str.ofString "", flS)] (Str.ofString " ") (strOf (40 :: (tl y0 ++ [44]))) (Str.ofString "FLAGS (" ++ y0) (by simp) hw rfl hp1 hcm htl sm2
    obtain ⟨rows', e0, l, a, b, c, d⟩ := key
    exact ⟨rows', e0, Str.ofString " ", l, .cons st1 (.cons (st2 _) a), b, c, d, rfl⟩
end Mine
end
section
open PySem PySem.W PyProof.Rows PySem.Calls PySem.Spec Builtin
set_option Elab.async false
set_option maxRecDepth 100000
set_option maxHeartbeats 4000000
set_option pp.maxSteps 3000
namespace Mine
theorem tl_flags : tl (Str.ofString "FLAGS (") = [70, 76, 65, 71, 83, 32, 40] := by decide +kernel
theorem tl_empty : tl (Str.ofString "") = [] := by decide +kernel
noncomputable abbrev crlf : Str := Str.ofString "\r\n"
theorem tl_crlf : tl crlf = [13, 10] := by decide +kernel
theorem tl_comsp : tl (Str.ofString ", ") = [44, 32] := by decide +kernel

noncomputable def qsOf (y0 : Str) : List Str → List (List Nat)
  | [] => [[70, 76, 65, 71, 83], 40 :: (tl y0 ++ [41])]
  | z :: r => [70, 76, 65, 71, 83] :: (40 :: (tl y0 ++ [44])) :: pcT (z :: r)
noncomputable abbrev textS (y0 : Str) (ys : List Str) : Str := (Str.ofString "FLAGS (" ++ Txt.join (Str.ofString ", ") (y0 :: ys)) ++ Str.ofString ")"
theorem joinSp_cons (q : List Nat) {l : List (List Nat)} (h : l ≠ []) : joinSp (q :: l) = q ++ 32 :: joinSp l := by
  cases l with
  | nil => exact absurd rfl h
  | cons p r => rfl
theorem pcT_ne (y : Str) (ys : List Str) : pcT (y :: ys) ≠ [] := by
  cases ys with
  | nil => simp [pcT]
  | cons z r => simp [pcT]
theorem qs_join (y0 : Str) (ys : List Str) : tl (textS y0 ys) = joinSp (qsOf y0 ys) := by
  rw [show textS y0 ys = (Str.ofString "FLAGS (" ++ Txt.join (Str.ofString ", ") (y0 :: ys)) ++ Str.ofString ")" from rfl, tl_app, tl_app, tl_flags, tl_join, tl_comsp, tl_shut]
  cases ys with
  | nil => simp [qsOf, joinSp]
  | cons z r =>
    rw [qsOf, joinSp_cons _ (by simp), joinSp_cons _ (pcT_ne z r), pcT_join]
    simp
theorem pcT_good : ∀ (ys : List Str), (∀ y ∈ ys, Word y) → ∀ q ∈ pcT ys, q ≠ [] ∧ 32 ∉ q ∧ 9 ∉ q
  | [], _, q, h => by simp [pcT] at h
  | [y], hw, q, h => by
    simp only [pcT, List.mem_singleton] at h
    subst h
    have wy := (hw y List.mem_cons_self).ok
    refine ⟨by simp, fun hm => ?_, fun hm => ?_⟩
    · rcases List.mem_append.mp hm with hm | hm
      · have := (wy _ hm).1; omega
      · simp at hm
    · rcases List.mem_append.mp hm with hm | hm
      · have := (wy _ hm).1; omega
      · simp at hm
  | y :: z :: r, hw, q, h => by
    rw [show pcT (y :: z :: r) = (tl y ++ [44]) :: pcT (z :: r) from rfl] at h
    rcases List.mem_cons.mp h with rfl | h
    · have wy := (hw y List.mem_cons_self).ok
      refine ⟨by simp, fun hm => ?_, fun hm => ?_⟩
      · rcases List.mem_append.mp hm with hm | hm
        · have := (wy _ hm).1; omega
        · simp at hm
      · rcases List.mem_append.mp hm with hm | hm
        · have := (wy _ hm).1; omega
        · simp at hm
    · exact pcT_good (z :: r) (fun x hx => hw x (List.mem_cons_of_mem _ hx)) q h
theorem head_good {y0 : Str} (h0 : Word y0) (c : Nat) (hc : c = 41 ∨ c = 44) : (40 :: (tl y0 ++ [c])) ≠ [] ∧ 32 ∉ (40 :: (tl y0 ++ [c])) ∧ 9 ∉ (40 :: (tl y0 ++ [c])) := by
  have w := h0.ok
  refine ⟨by simp, fun hm => ?_, fun hm => ?_⟩
  · rcases List.mem_cons.mp hm with e | hm
    · omega
    · rcases List.mem_append.mp hm with hm | hm
      · have := (w _ hm).1; omega
      · have := List.mem_singleton.mp hm; omega
  · rcases List.mem_cons.mp hm with e | hm
    · omega
    · rcases List.mem_append.mp hm with hm | hm
      · have := (w _ hm).1; omega
      · have := List.mem_singleton.mp hm; omega
theorem qs_good {y0 : Str} {ys : List Str} (h0 : Word y0) (hw : ∀ y ∈ ys, Word y) : ∀ q ∈ qsOf y0 ys, q ≠ [] ∧ 32 ∉ q ∧ 9 ∉ q := by
  intro q hq
  cases ys with
  | nil =>
    simp only [qsOf, List.mem_cons, List.not_mem_nil, or_false] at hq
    rcases hq with rfl | rfl
    · decide
    · exact head_good h0 41 (.inl rfl)
  | cons z r =>
    simp only [qsOf, List.mem_cons] at hq
    rcases hq with rfl | rfl | hq
    · decide
    · exact head_good h0 44 (.inr rfl)
    · exact pcT_good (z :: r) hw q hq
theorem sp_strOf : Str.ofString " " = strOf [32] := by decide +kernel
theorem cutS_flat (q : List Nat) : ∀ r : List (List Nat), cutS (q :: r) = strOf q :: flat2 (r.map fun p => (Str.ofString " ", strOf p))
  | [] => rfl
  | p :: r => by
    rw [show cutS (q :: p :: r) = strOf q :: strOf [32] :: cutS (p :: r) from rfl, cutS_flat p r]
    rw [← sp_strOf]
    rfl
theorem cut_prs (y0 : Str) (ys : List Str) : Str.ofString "" :: cutS (qsOf y0 ys) = flat2 (prs y0 ys) := by
  cases ys with
  | nil => rw [qsOf, cutS_flat]; rfl
  | cons z r => rw [qsOf, cutS_flat]; rfl
theorem cut_head (y0 : Str) (ys : List Str) : ∃ ps, cutS (qsOf y0 ys) = flS :: ps := by
  cases ys with
  | nil => exact ⟨_, by rw [qsOf, cutS_flat]⟩
  | cons z r => exact ⟨_, by rw [qsOf, cutS_flat]⟩
theorem prs_len (y0 : Str) (ys : List Str) : (prs y0 ys).length = ys.length + 2 := by
  have : ∀ ys, (pcT ys).length = ys.length := by
    intro ys
    induction ys with
    | nil => rfl
    | cons y r ih =>
      cases r with
      | nil => rfl
      | cons z r => rw [show pcT (y :: z :: r) = (tl y ++ [44]) :: pcT (z :: r) from rfl, List.length_cons, ih]; rfl
  cases ys with
  | nil => rfl
  | cons z r => simp [prs, this]
theorem pcT_len : ∀ (ys : List Str), (∀ y ∈ ys, Word y) → ∀ q ∈ pcT ys, q.length ≤ 21
  | [], _, q, h => by simp [pcT] at h
  | [y], hw, q, h => by
    simp only [pcT, List.mem_singleton] at h
    subst h
    have := (hw y List.mem_cons_self).len
    rw [len_tl] at this
    rw [List.length_append]
    show (tl y).length + 1 ≤ 21
    omega
  | y :: z :: r, hw, q, h => by
    rw [show pcT (y :: z :: r) = (tl y ++ [44]) :: pcT (z :: r) from rfl] at h
    rcases List.mem_cons.mp h with rfl | h
    · have := (hw y List.mem_cons_self).len
      rw [len_tl] at this
      rw [List.length_append]
      show (tl y).length + 1 ≤ 21
      omega
    · exact pcT_len (z :: r) (fun x hx => hw x (List.mem_cons_of_mem _ hx)) q h
theorem prs_small {y0 : Str} {ys : List Str} (h0 : Word y0) (hw : ∀ y ∈ ys, Word y) : Sm (prs y0 ys) := by
  have l0 := h0.len
  rw [len_tl] at l0
  intro e he
  cases ys with
  | nil =>
    simp only [prs, List.mem_cons, List.not_mem_nil, or_false] at he
    rcases he with rfl | rfl
    · exact ⟨by decide +kernel, by decide +kernel⟩
    · exact ⟨by rw [len_sp]; omega, by rw [len_strOf, List.length_cons, List.length_append]; show (tl y0).length + 1 + 1 ≤ 1000; omega⟩
  | cons z r =>
    simp only [prs, List.mem_cons, List.mem_map] at he
    rcases he with rfl | rfl | ⟨q, hq, rfl⟩
    · exact ⟨by decide +kernel, by decide +kernel⟩
    · exact ⟨by rw [len_sp]; omega, by rw [len_strOf, List.length_cons, List.length_append]; show (tl y0).length + 1 + 1 ≤ 1000; omega⟩
    · have := pcT_len (z :: r) hw q hq
      exact ⟨by rw [len_sp]; omega, by rw [len_strOf]; omega⟩

/-- what stands behind a word, up to the last: a comma and a way to the next -/
inductive Bod : List Str → List Nat → Prop
  | nil : Bod [] []
  | sp {y : Str} {ys b} : Bod ys b → Bod (y :: ys) (44 :: 32 :: (tl y ++ b))
  | nl {y : Str} {ys b} : Bod ys b → Bod (y :: ys) (44 :: 13 :: 10 :: 32 :: (tl y ++ b))
theorem join_last (sep a b : Str) : ∀ done : List Str, tl (Txt.join sep (done ++ [a ++ b])) = tl (Txt.join sep (done ++ [a])) ++ tl b
  | [] => by rw [List.nil_append, List.nil_append, join_one', join_one', tl_app]
  | d :: r => by rw [List.cons_append, List.cons_append, tl_join, tl_join]; simp [tl_app]
theorem join_more (sep x z : Str) : ∀ l : List Str, tl (Txt.join sep (l ++ [x] ++ [z])) = tl (Txt.join sep (l ++ [x])) ++ tl sep ++ tl z
  | [] => by rw [List.nil_append, List.singleton_append, join_two, join_one', join_one', tl_app, tl_app]
  | d :: r => by rw [List.cons_append, List.cons_append, tl_join, tl_join]; simp
theorem rows_text {wd : Int} : ∀ (ys : List Str) (done : List Str) (cur : Str), ∃ b, Bod ys b ∧ tl (Txt.join crlf (rowsGo wd done cur ys)) = tl (Txt.join crlf (done ++ [cur])) ++ (b ++ [41])
  | [], done, cur => ⟨[], .nil, by
    rw [show rowsGo wd done cur [] = done ++ [cur ++ Str.ofString ")"] from rfl, join_last, tl_shut]; rfl⟩
  | y :: ys, done, cur => by
    by_cases hc : wd < ((cur ++ comS).length : Int) + (y.length : Int) + 2
    · obtain ⟨b, hb, e⟩ := rows_text (wd := wd) ys (done ++ [cur ++ comS]) (Str.ofString " " ++ y)
      refine ⟨_, .nl hb, ?_⟩
      rw [rowsGo_cut hc, e, join_more, join_last, tl_crlf, tl_com, tl_app, tl_sp]
      simp
    · obtain ⟨b, hb, e⟩ := rows_text (wd := wd) ys done ((cur ++ comS) ++ (Str.ofString " " ++ y))
      refine ⟨_, .sp hb, ?_⟩
      rw [rowsGo_fit hc, e, join_last, join_last, tl_com, tl_app, tl_sp]
      simp
theorem bod_len : ∀ {ys : List Str} {b : List Nat}, Bod ys b → (∀ y ∈ ys, Word y) → b.length ≤ 24 * ys.length
  | _, _, .nil, _ => Nat.le_refl _
  | _, _, .sp (y := y) r, hw => by
    have := bod_len r fun x hx => hw x (List.mem_cons_of_mem _ hx)
    have l := (hw y List.mem_cons_self).len
    rw [len_tl] at l
    simp only [List.length_cons, List.length_append]
    show (tl y).length + _ + 1 + 1 ≤ _
    omega
  | _, _, .nl (y := y) r, hw => by
    have := bod_len r fun x hx => hw x (List.mem_cons_of_mem _ hx)
    have l := (hw y List.mem_cons_self).len
    rw [len_tl] at l
    simp only [List.length_cons, List.length_append]
    show (tl y).length + _ + 1 + 1 + 1 + 1 ≤ _
    omega
theorem bod_ok : ∀ {ys : List Str} {b : List Nat}, Bod ys b → (∀ y ∈ ys, Word y) → ∀ c ∈ b, c < 127 ∧ c ≠ 40 ∧ c ≠ 41
  | _, _, .nil, _, c, h => by simp at h
  | _, _, .sp (y := y) r, hw, c, h => by
    simp only [List.mem_cons, List.mem_append] at h
    rcases h with rfl | rfl | h | h
    · decide
    · decide
    · have := (hw y List.mem_cons_self).ok c h
      exact ⟨this.2.1, this.2.2.1, this.2.2.2.1⟩
    · exact bod_ok r (fun x hx => hw x (List.mem_cons_of_mem _ hx)) c h
  | _, _, .nl (y := y) r, hw, c, h => by
    simp only [List.mem_cons, List.mem_append] at h
    rcases h with rfl | rfl | rfl | rfl | h | h
    · decide
    · decide
    · decide
    · decide
    · have := (hw y List.mem_cons_self).ok c h
      exact ⟨this.2.1, this.2.2.1, this.2.2.2.1⟩
    · exact bod_ok r (fun x hx => hw x (List.mem_cons_of_mem _ hx)) c h

/-- the text that was written -/
structure Writ (y0 : Str) (ys : List Str) (x : Str) : Prop where
  b : ∃ b, Bod ys b ∧ tl x = [70, 76, 65, 71, 83, 32, 40] ++ ((tl y0 ++ b) ++ [41])
theorem writ_rows (wd : Int) (y0 : Str) (ys : List Str) : Writ y0 ys (Txt.join crlf (rowsGo wd [] (Str.ofString "FLAGS (" ++ y0) ys)) := by
  obtain ⟨b, hb, e⟩ := rows_text (wd := wd) ys [] (Str.ofString "FLAGS (" ++ y0)
  refine ⟨b, hb, ?_⟩
  rw [e, List.nil_append, join_one', tl_app, tl_flags]
  simp
theorem asc_writ {y0 : Str} {ys : List Str} {x : Str} (h0 : Word y0) (hw : ∀ y ∈ ys, Word y) (W : Writ y0 ys x) : Asc x := by
  obtain ⟨b, hb, e⟩ := W.b
  intro c hc
  have hc' : c ∈ tl x := by simpa using hc
  rw [e] at hc'
  simp only [List.mem_append, List.mem_cons, List.not_mem_nil, or_false] at hc'
  rcases hc' with h | ⟨h | h⟩ | h
  · omega
  · have := (h0.ok c h).2.1; omega
  · have := (bod_ok hb hw c h).1; omega
  · omega
theorem nums_octs {x : Str} (ha : Asc x) : nums (octs x) = x.cps := by
  unfold nums octs
  rw [Array.map_map]
  have : ∀ l : List Nat, (∀ c ∈ l, c < 128) → l.map ((fun b : UInt8 => b.toNat) ∘ Nat.toUInt8) = l := by
    intro l hl
    induction l with
    | nil => rfl
    | cons c l ih =>
      rw [List.map_cons, ih fun c' h' => hl c' (List.mem_cons_of_mem _ h')]
      have := hl c List.mem_cons_self
      have e : (c.toUInt8).toNat = c := by simp [Nat.toUInt8]; omega
      show (c.toUInt8).toNat :: l = c :: l
      rw [e]
  apply Array.ext'
  rw [Array.toList_map]
  exact this _ fun c hc => ha c (by simpa using hc)
theorem getD_tl (t : Array Nat) (j : Nat) : t.getD j 0 = t.toList.getD j 0 := by
  rw [List.getD_eq_getElem?_getD]
  simp [Array.getD_eq_getD_getElem?]
/-- the facts that the pattern asks of such a text, its last sign there or gone -/
theorem flg_of {t : Array Nat} {body : List Nat} {tail : List Nat} (ht : t.toList = [70, 76, 65, 71, 83, 32, 40] ++ (body ++ tail)) (htl : tail = [] ∨ tail = [41]) (hb : ∀ c ∈ body, c ≠ 40 ∧ c ≠ 41) (h1 : 1 ≤ body.length) (hz : body.length ≤ 900) : Flg t body.length := by
  have hs : t.size = 7 + (body.length + tail.length) := by
    have := congrArg List.length ht
    simp at this
    omega
  have htl' : tail.length ≤ 1 := by rcases htl with rfl | rfl <;> simp
  refine ⟨by omega, by omega, by omega, fun j hj => ?_, fun j hj => ?_, fun j hj => ?_⟩
  · rw [getD_tl, ht]
    have : ∀ j, j < 7 → ([70, 76, 65, 71, 83, 32, 40] : List Nat).getD j 0 = C2.getD (11 + 2 * j + 1) 0 := by decide
    rw [← this j hj, List.getD_eq_getElem?_getD, List.getElem?_append_left (by simpa using hj), List.getD_eq_getElem?_getD]
  · rw [getD_tl, ht, List.getD_eq_getElem?_getD]
    intro q
    cases e : ([70, 76, 65, 71, 83, 32, 40] ++ (body ++ tail))[j]? with
    | none => rw [e] at q; simp at q
    | some c =>
      rw [e] at q
      simp only [Option.getD_some] at q
      subst q
      rw [List.getElem?_append_right (by simpa using hj)] at e
      have hm := List.mem_of_getElem? e
      rcases List.mem_append.mp hm with hm | hm
      · exact (hb _ hm).1 rfl
      · rcases htl with rfl | rfl
        · simp at hm
        · simp at hm
  · rw [getD_tl, ht, List.getD_eq_getElem?_getD, List.getElem?_append_right (by simp), List.getElem?_append_left (by simpa using hj)]
    intro q
    have hj' : (7 + j - ([70, 76, 65, 71, 83, 32, 40] : List Nat).length) < body.length := by simpa using hj
    rw [List.getElem?_eq_getElem hj', Option.getD_some] at q
    exact (hb _ (List.getElem_mem hj')).2 q

/-- a text's signs as octets -/
noncomputable abbrev u8 (l : List Nat) : List UInt8 := l.map Nat.toUInt8
/-- what ParseFlags is to give -/
noncomputable def exB : Str → List Str → List (Array UInt8)
  | y, [] => [(u8 (tl y)).toArray]
  | y, z :: r => (u8 (tl y ++ [44])).toArray :: exB z r
theorem nsp {y : Str} (h : Word y) : ∀ c ∈ u8 (tl y), Bytes.isSpace c = false := by
  intro c hc
  obtain ⟨n, hn, rfl⟩ := List.mem_map.mp hc
  have := h.ok n hn
  have key : ∀ n, n < 127 → 33 ≤ n → Bytes.isSpace n.toUInt8 = false := by decide +kernel
  exact key n this.2.1 this.1
theorem tw_app {p : UInt8 → Bool} : ∀ {a b : List UInt8}, (∀ c ∈ a, p c = true) → (a ++ b).takeWhile p = a ++ b.takeWhile p ∧ (a ++ b).dropWhile p = b.dropWhile p
  | [], b, _ => ⟨rfl, rfl⟩
  | c :: a, b, h => by
    obtain ⟨x, y⟩ := tw_app (p := p) (a := a) (b := b) fun d hd => h d (List.mem_cons_of_mem _ hd)
    rw [List.cons_append, List.takeWhile_cons, List.dropWhile_cons, h c List.mem_cons_self]
    simp only [if_true]
    exact ⟨by rw [x]; rfl, y⟩
theorem words_skip (f n : Nat) (sep : List UInt8) (t : List UInt8) (h : ∀ c ∈ sep, Bytes.isSpace c = true) : Bytes.words f n (sep ++ t) = Bytes.words f n t := by
  cases f with
  | zero => rfl
  | succ f =>
    unfold Bytes.words
    rw [(tw_app (p := Bytes.isSpace) (a := sep) (b := t) h).2]
theorem words_bod : ∀ {ys : List Str} {b : List Nat}, Bod ys b → ∀ (y : Str) (f n : Nat), Word y → (∀ x ∈ ys, Word x) → ys.length + 1 < f → ys.length + 1 ≤ n → (Bytes.words f n (u8 (tl y ++ b))).map (·.toArray) = exB y ys := by
  have one : ∀ (y : Str) (c : List UInt8) (rest : List UInt8) (f n : Nat), Word y → (∀ d ∈ c, Bytes.isSpace d = false) → (∀ d e, rest = d :: e → Bytes.isSpace d = true) → 1 ≤ n →
      Bytes.words (f + 1) n (u8 (tl y) ++ (c ++ rest)) = (u8 (tl y) ++ c) :: Bytes.words f (n - 1) rest := by
    intro y c rest f n hy hc hr hn
    conv => lhs; unfold Bytes.words
    have hne : u8 (tl y) ++ (c ++ rest) ≠ [] := by
      intro q
      have := hy.pos
      simp at q
      exact this (by simpa using q.1)
    have d0 : (u8 (tl y) ++ (c ++ rest)).dropWhile Bytes.isSpace = u8 (tl y) ++ (c ++ rest) := by
      cases e : u8 (tl y) with
      | nil =>
        have := hy.pos
        exact absurd (by simpa using e) this
      | cons d r => rw [List.cons_append, List.dropWhile_cons, nsp hy d (by rw [e]; exact List.mem_cons_self)]; rfl
    rw [d0]
    split
    · rename_i q; exact absurd q hne
    · rw [if_neg (by simp; omega)]
      have hall : ∀ d ∈ u8 (tl y) ++ c, (!Bytes.isSpace d) = true := fun d hd => by
        rcases List.mem_append.mp hd with hd | hd
        · rw [nsp hy d hd]; rfl
        · rw [hc d hd]; rfl
      have ht := tw_app (p := (!Bytes.isSpace ·)) (a := u8 (tl y) ++ c) (b := rest) hall
      rw [← List.append_assoc, ht.1, ht.2]
      have h1 : rest.takeWhile (!Bytes.isSpace ·) = [] := by
        cases rest with
        | nil => rfl
        | cons d e => rw [List.takeWhile_cons, hr d e rfl]; rfl
      have h2 : rest.dropWhile (!Bytes.isSpace ·) = rest := by
        cases rest with
        | nil => rfl
        | cons d e => rw [List.dropWhile_cons, hr d e rfl]; rfl
      rw [h1, h2, List.append_nil]
  intro ys b hb
  induction hb with
  | nil =>
    intro y f n hy _ hf hn
    obtain ⟨f, rfl⟩ : ∃ g, f = g + 1 := ⟨f - 1, by omega⟩
    have := one y [] [] f n hy (fun _ h => by simp at h) (fun _ _ h => by simp at h) (by omega)
    rw [List.append_nil, List.append_nil] at this
    rw [List.append_nil, this]
    have e : Bytes.words f (n - 1) [] = [] := by
      cases f with
      | zero => rfl
      | succ f => rfl
    rw [e]
    rfl
  | sp r ih =>
    rename_i z ys b
    intro y f n hy hw hf hn
    obtain ⟨f, rfl⟩ : ∃ g, f = g + 1 := ⟨f - 1, by omega⟩
    simp only [List.length_cons] at hf hn
    have e : u8 (tl y ++ (44 :: 32 :: (tl z ++ b))) = u8 (tl y) ++ ([44] ++ ([32] ++ u8 (tl z ++ b))) := by simp [u8]
    rw [e, one y [44] ([32] ++ u8 (tl z ++ b)) f n hy (by decide) (fun d e' h => by injection h with h1 _; rw [← h1]; decide) (by omega), words_skip f (n - 1) [32] _ (by decide), List.map_cons, ih z f (n - 1) (hw z List.mem_cons_self) (fun x hx => hw x (List.mem_cons_of_mem _ hx)) (by omega) (by omega)]
    simp [exB, u8]
  | nl r ih =>
    rename_i z ys b
    intro y f n hy hw hf hn
    obtain ⟨f, rfl⟩ : ∃ g, f = g + 1 := ⟨f - 1, by omega⟩
    simp only [List.length_cons] at hf hn
    have e : u8 (tl y ++ (44 :: 13 :: 10 :: 32 :: (tl z ++ b))) = u8 (tl y) ++ ([44] ++ ([13, 10, 32] ++ u8 (tl z ++ b))) := by simp [u8]
    rw [e, one y [44] ([13, 10, 32] ++ u8 (tl z ++ b)) f n hy (by decide) (fun d e' h => by injection h with h1 _; rw [← h1]; decide) (by omega), words_skip f (n - 1) [13, 10, 32] _ (by decide), List.map_cons, ih z f (n - 1) (hw z List.mem_cons_self) (fun x hx => hw x (List.mem_cons_of_mem _ hx)) (by omega) (by omega)]
    simp [exB, u8]
end Mine
end
section
open PySem PySem.W PyProof.Rows PySem.Calls PySem.Spec Builtin
set_option Elab.async false
set_option maxRecDepth 100000
set_option maxHeartbeats 4000000
set_option pp.maxSteps 3000
namespace Mine
theorem fillT1 (w : World) (h₀ : Heap) : (hd.heap_1 w.params).In h₀ → PySem.Challenge.rw_zd0011_01.Holds → True := by k_fill; intros; trivial
theorem preW_word {mask first : Nat} (hf : first < 8) : ∀ i, i ≤ 4 → ∀ y ∈ preW mask first i, Word y
  | 0, _, y, h => by simp [preW] at h
  | i + 1, hi, y, h => by
    unfold preW at h
    rcases List.mem_append.mp h with h | h
    · exact preW_word hf i (by omega) y h
    · split at h
      · simp only [List.mem_singleton] at h
        subst h
        exact word_nm _ (by omega)
      · simp at h
theorem words_split (mask : Nat) {first : Nat} (hf : first < 8) : ∃ y0 ys, wordsS mask first = y0 :: ys ∧ Word y0 ∧ (∀ y ∈ ys, Word y) ∧ ys.length ≤ 3 := by
  unfold wordsS
  split
  · exact ⟨_, [], rfl, word_zero, by simp, by simp⟩
  · rename_i hne
    have hl := preW_len (mask := mask) (first := first) 4
    have hw := preW_word (mask := mask) hf 4 (Nat.le_refl _)
    cases e : preW mask first 4 with
    | nil => exact absurd e hne
    | cons y0 ys =>
      rw [e] at hl hw
      simp only [List.length_cons] at hl
      exact ⟨y0, ys, rfl, hw y0 List.mem_cons_self, fun y hy => hw y (List.mem_cons_of_mem _ hy), by omega⟩
theorem pretty_join {mask first : Nat} (hm : mask < 16) (hf : first < 8) : prettyS (mask * 2 ^ first) = Txt.join (Str.ofString ", ") (wordsS mask first) := by
  unfold prettyS
  rw [tail_eq mask hm first hf]
theorem shl_lt {mask first : Nat} (hm : mask < 16) (hf : first < 8) : mask * 2 ^ first < 2048 := by
  have : 2 ^ first ≤ 2 ^ 7 := Nat.pow_le_pow_right (by omega) (by omega)
  calc mask * 2 ^ first ≤ 15 * 2 ^ 7 := Nat.mul_le_mul (by omega) this
    _ < 2048 := by decide
theorem join_small (y0 : Str) (ys : List Str) (h0 : Word y0) (hw : ∀ y ∈ ys, Word y) (hl : ys.length ≤ 3) : (Txt.join (Str.ofString ", ") (y0 :: ys)).length ≤ 100 := by
  rw [len_tl, tl_join, tl_comsp]
  have a0 := h0.len
  rw [len_tl] at a0
  have : ∀ (zs : List Str), (∀ y ∈ zs, Word y) → (zs.flatMap fun z => [44, 32] ++ tl z).length ≤ 22 * zs.length := by
    intro zs
    induction zs with
    | nil => simp
    | cons z r ih =>
      intro h
      have a := (h z List.mem_cons_self).len
      rw [len_tl] at a
      have b := ih fun y hy => h y (List.mem_cons_of_mem _ hy)
      simp only [List.flatMap_cons, List.length_append, List.length_cons, List.length_nil] at b ⊢
      omega
  have := this ys hw
  rw [List.length_append]
  omega
theorem rows_wt {wd : Int} : ∀ (ys : List Str) (done : List Str) (cur : Str), (∀ y ∈ ys, Word y) → ((rowsGo wd done cur ys).map (·.length)).sum ≤ (done.map (·.length)).sum + cur.length + 24 * ys.length + 1 ∧ (rowsGo wd done cur ys).length ≤ done.length + ys.length + 1
  | [], done, cur, _ => by
    rw [show rowsGo wd done cur [] = done ++ [cur ++ Str.ofString ")"] from rfl]
    have : (Str.ofString ")").length = 1 := by decide +kernel
    simp only [List.map_append, List.sum_append, List.map_cons, List.map_nil, List.sum_cons, List.sum_nil, List.length_append, List.length_cons, List.length_nil, str_len_app]
    omega
  | y :: ys, done, cur, hw => by
    have a := (hw y List.mem_cons_self).len
    have hw' : ∀ x ∈ ys, Word x := fun x hx => hw x (List.mem_cons_of_mem _ hx)
    have l1 := len_com
    have l2 := len_sp
    by_cases hc : wd < ((cur ++ comS).length : Int) + (y.length : Int) + 2
    · rw [rowsGo_cut hc]
      obtain ⟨i1, i2⟩ := rows_wt (wd := wd) ys (done ++ [cur ++ comS]) (Str.ofString " " ++ y) hw'
      simp only [List.map_append, List.sum_append, List.map_cons, List.map_nil, List.sum_cons, List.sum_nil, List.length_append, List.length_cons, List.length_nil, str_len_app] at i1 i2 ⊢
      omega
    · rw [rowsGo_fit hc]
      obtain ⟨i1, i2⟩ := rows_wt (wd := wd) ys done ((cur ++ comS) ++ (Str.ofString " " ++ y)) hw'
      simp only [str_len_app, List.length_cons] at i1 i2 ⊢
      omega
theorem last_ok (e0 : List Ent) (ff : Str) (ll : List Nat) (hll : ∀ c ∈ ll, c < 127) : PyData.strOk (strOf (ll ++ [41])) = true ∧ ¬ (ff = Str.ofString " " ∧ strOf (ll ++ [41]) = Str.ofString "") ∧ Txt.isspace (eStr (e0 ++ [(ff, strOf (ll ++ [41]))])) = false ∧ elen (e0 ++ [(ff, strOf (ll ++ [41]))]) ≠ 0 := by
  have e : tl (eStr (e0 ++ [(ff, strOf (ll ++ [41]))])) = tl (eStr e0) ++ (tl ff ++ (ll ++ [41])) := eStr_snoc _ _
  refine ⟨?_, ?_, ?_, ?_⟩
  · show (ll ++ [41]).toArray.all (· < 0x110000) = true
    simp only [List.all_toArray, List.all_eq_true, List.mem_append, List.mem_singleton]
    intro c hc
    rcases hc with hc | rfl
    · have := hll c hc
      exact decide_eq_true (by omega)
    · decide
  · rintro ⟨_, q⟩
    have := congrArg tl q
    rw [tl_empty] at this
    exact absurd this (by simp [tl_strOf])
  · have h41 : (41 : Nat) ∈ (eStr (e0 ++ [(ff, strOf (ll ++ [41]))])).cps.toList := by
      show (41 : Nat) ∈ tl _
      rw [e]
      simp
    unfold Txt.isspace
    have : (eStr (e0 ++ [(ff, strOf (ll ++ [41]))])).cps.all Unicode.isSpace = false := by
      rw [← Array.all_toList, List.all_eq_false]
      exact ⟨41, h41, by decide +kernel⟩
    rw [this, Bool.and_false]
  · rw [elen_eq, len_tl, e]
    simp
section
variable {w : World} {mg mb : Str → Option Value} {A : Around} {s : Shared} {h₀ h : Heap} {L K fa : Addr} {cd : Value} {m : Str → Option Value} {l la r rest news : List (Addr × Obj)} {E : Value → Shared → Prop} {Q : Flow → Shared → Prop}
theorem Mk.inst {mk md ls x d : Addr} {wd : Int} {lines vs : List Value} (hm : Mk mk md ls x d wd lines vs l) (G : Lg h₀ L m s.heap (l ++ r)) : ∃ es k, PySem.W.InstAt s.heap mk (mkObj md) 136 (some (dictOf es k)) ∧ shadowIn (some (dictOf es k)) (Str.ofString "_ascii_split") = some false ∧ shadowIn (some (dictOf es k)) (Str.ofString "_str") = some false := by
  obtain ⟨la, n, a1, a2, a3, a4, a5, a6, k1, k2, k3, k4, k5, k6, tw, ts, tl, tc, k, ha, hl, rfl⟩ := hm
  rw [List.append_assoc] at G
  exact ⟨_, _, ⟨G.getR (i := 1) rfl, rfl, rfl, G.getR (i := 2) rfl⟩, by rfl, by rfl⟩
/-- the maker is let go, but for the two tables -/
theorem Mk.tabs {mk md ls x d : Addr} {wd : Int} {lines vs : List Value} (hm : Mk mk md ls x d wd lines vs l) (G : Lg h₀ L m h (l ++ r)) : ∃ t1 t2, TriplesOk t1 ∧ TriplesOk t2 ∧ Lg h₀ L m h ([(182, tabO t1), (189, tabO t2)] ++ r) := by
  obtain ⟨la, n, a1, a2, a3, a4, a5, a6, k1, k2, k3, k4, k5, k6, tw, ts, tl, tc, k, ⟨n', hk, tk, tz, k', t1, t2, rfl, ok1, ok2, hl'⟩, hl, rfl⟩ := hm
  exact ⟨t1, t2, ok1, ok2, G.drop (.cons _ (.cons _ (.cons_cons _ (.cons_cons _ (.cons _ (.cons _ (.cons _ (.refl _))))))))⟩

theorem turn_a {mask first : Nat} {wd : Int} {tm tf tw : Tok} {t1 t2 : List Value} {y0 : Str} {ys : List Str} (hm : mask < 16) (hf : first < 8) (hw1 : wordsS mask first = y0 :: ys) (hy0 : Word y0) (hys : ∀ y ∈ ys, Word y) (hyl : ys.length ≤ 3) (R : Rm A 30) (W : Wd w mg mb h₀) (ok1 : TriplesOk t1) (ok2 : TriplesOk t2)
    (G : Lg h₀ L m s.heap ([(182, tabO t1), (189, tabO t2)] ++ rest)) (m1 : m "mask" = some (.int mask tm)) (m2 : m "first" = some (.int first tf)) (m3 : m "width" = some (.int wd tw))
    (h : ∀ s' m' t1' t2' wa wv wn x tx, TriplesOk t1' → TriplesOk t2' → (∀ y, y ≠ ("words" : Str) → y ≠ ("maker" : Str) → y ≠ ("written" : Str) → m' y = m y) → m' "words" = some (.ref wa) → m' "written" = some (.str x tx) → StrsAre wv (y0 :: ys) → Writ y0 ys x →
      Lg h₀ L m' s'.heap ([(182, tabO t1'), (189, tabO t2')] ++ (rest ++ [(wa, listO wv wn)])) → s'.os = s.os → (AllBare s.gens → AllBare s'.gens) → wpAny (model PP w) A (execs (lawFor1.drop 5) (lawEnv L fa cd)) Q E s') :
    wpAny (model PP w) A (execs lawFor1 (lawEnv L fa cd)) Q E s := by
  unfold lawFor1 at h ⊢
  refine wpAny_execs_cons ?_
  refine wpAny_Assign_Name ?_
  refine Call_ (nameX_K G.fr W.X W.T (by k_is) ?_)
  refine callWith_K (W.X.keeps G.fr.keep) (by k_is) (spliced_more (nameX_L G.fr m1 (spliced_more (nameX_L G.fr m2 (spliced_none ?_)))))
  refine ⟨W.X.keeps G.fr.keep, ?_⟩
  refine c_words (rest := [(182, tabO t1), (189, tabO t2)] ++ rest) hm hf (R.le (by decide)) W G fun s2 wa wv wn hwv B2 => ?_
  rw [hw1] at hwv
  have G2 : Lg h₀ L m s2.heap ([(182, tabO t1), (189, tabO t2)] ++ (rest ++ [(wa, listO wv wn)])) := by
    have g := Lg.moveFront (la := [(182, tabO t1), (189, tabO t2)] ++ rest) (r := []) (p := (wa, listO wv wn)) (by rw [List.append_nil]; exact B2.lg)
    rw [List.nil_append, List.append_assoc] at g
    exact g
  refine storeN G2 fun h3 m3' e3 k3 G3 => ?_
  dsimp only
  refine wpAny_execs_cons ?_
  refine wpAny_Assign_Name ?_
  refine Call_ (nameX_K (s := ⟨h3, _, _, _, _⟩) G3.fr W.X W.T (by k_is) ?_)
  refine callWith_K (s := ⟨h3, _, _, _, _⟩) (W.X.keeps G3.fr.keep) (by k_is) (spliced_more (wpAny_Constant_int (spliced_more (nameX_L (s := ⟨h3, _, _, _, _⟩) G3.fr (lk k3 m3) (spliced_more (Calls.Constant_str (spliced_more (Calls.Constant_str (spliced_none ?_)))))))))
  dsimp only
  refine ⟨W.X.keeps G3.fr.keep, ?_⟩
  refine mk_fmt (s := ⟨h3, _, _, _, _⟩) ok1 ok2 (R.le (by decide)) W G3 fun mk md ls x d s4 l4 hm4 B4 => ?_
  refine storeN B4.lg fun h5 m5 e5 k5 G5 => ?_
  obtain ⟨es, kk, Im, sh1, sh2⟩ := hm4.inst (s := ⟨h5, s4.gens, s4.drawn, s4.toks + 1, s4.os⟩) G5
  have X5 := W.X.keeps G5.fr.keep
  have mm5 : m5 "mask" = some (.int mask tm) := lk k5 (lk k3 m1)
  have mf5 : m5 "first" = some (.int first tf) := lk k5 (lk k3 m2)
  have mw5 : m5 "width" = some (.int wd tw) := lk k5 (lk k3 m3)
  have mo5 : m5 "words" = some (.ref wa) := lk k5 e3
  refine wpAny_execs_cons ?_
  refine wpAny_Expr_any ?_
  refine MethodCall_ (nameX_L (s := ⟨h5, _, _, _, _⟩) G5.fr e5 ?_)
  refine getm_any (s := ⟨h5, _, _, _, _⟩) X5 Im (by k_is) (by decide +kernel) (by k_is) (by k_is) (by k_is) (by rfl) sh1 ?_
  refine callWith_K (s := ⟨h5, _, _, _, _⟩) X5 (by k_is) ?_
  refine spliced_more (Calls.Constant_str ?_)
  refine spliced_more ?_
  refine wpAny_BinOp ?_
  refine wpAny_BinOp ?_
  refine Calls.Constant_str ?_
  refine Call_ (nameX_K (s := ⟨h5, _, _, _, _⟩) G5.fr W.X W.T (by k_is) ?_)
  refine callWith_K (s := ⟨h5, _, _, _, _⟩) X5 (by k_is) (spliced_more ?_)
  refine wpAny_BinOp (nameX_L (s := ⟨h5, _, _, _, _⟩) G5.fr mm5 (nameX_L (s := ⟨h5, _, _, _, _⟩) G5.fr mf5 ?_))
  refine lshift_int_small (by omega) (by omega) (by omega) ?_
  refine spliced_none ?_
  dsimp only
  refine ⟨X5, ?_⟩
  rw [show (mask : Int) * 2 ^ (first : Int).toNat = ((mask * 2 ^ first : Nat) : Int) by simp]
  refine c_pretty (s := ⟨h5, _, _, _, _⟩) (rest := l4 ++ (rest ++ [(wa, listO wv wn)])) (shl_lt hm hf) (R.le (by decide)) W G5 fun s6 t6 B6 => ?_
  rw [pretty_join hm hf, hw1]
  have hjl := join_small y0 ys hy0 hys hyl
  refine SBL.add (fun t7 k7 _ => ?_) (size_fits' (by have : (Str.ofString "FLAGS (").length = 7 := by decide +kernel
                                                     omega))
  refine Calls.Constant_str ?_
  refine SBL.add (fun t8 k8 _ => ?_) (size_fits' (by have a1 : (Str.ofString "FLAGS (").length = 7 := by decide +kernel
                                                     have a2 : (Str.ofString ")").length = 1 := by decide +kernel
                                                     rw [str_len_app]
                                                     omega))
  refine spliced_more (Calls.Constant_str (spliced_none ?_))
  have G6 : Lg h₀ L m5 s6.heap (l4 ++ (rest ++ [(wa, listO wv wn)])) := B6.lg
  refine ⟨W.X.keeps G6.fr.keep, ?_⟩
  have htl : (textS y0 ys).length ≤ 1000 := by
    have a1 : (Str.ofString "FLAGS (").length = 7 := by decide +kernel
    have a2 : (Str.ofString ")").length = 1 := by decide +kernel
    show ((Str.ofString "FLAGS (" ++ Txt.join (Str.ofString ", ") (y0 :: ys)) ++ Str.ofString ")").length ≤ 1000
    rw [str_len_app, str_len_app]
    omega
  have hne : qsOf y0 ys ≠ [] := by cases ys <;> simp [qsOf]
  have hsp : SplitOk w (textS y0 ys) (cutS (qsOf y0 ys)) := split_ok (qs_join y0 ys) hne (qs_good hy0 hys) htl
  obtain ⟨ps, hps⟩ := cut_head y0 ys
  rw [hps] at hsp
  have hpr : Str.ofString "" :: flS :: ps = flat2 (prs y0 ys) := by rw [← hps]; exact cut_prs y0 ys
  obtain ⟨rows', e0, ff, ll, hst, hrw, hsm, hll, hff⟩ := steps_all (wd := wd) hy0 hys
  refine c_asplit (s := ⟨s6.heap, _, _, _, _⟩) hm4 hsp (by decide +kernel) hpr (prs_small hy0 hys) (by rw [prs_len]; omega) hst (R.le (by decide)) W G6 htl (by decide +kernel) fun s9 l9 lines9 vs9 hm9 hr9 hE9 B9 => ?_
  have G9 : Lg h₀ L m5 s9.heap (l9 ++ (rest ++ [(wa, listO wv wn)])) := B9.lg
  clear hsp hpr hst
  obtain ⟨es9, kk9, Im9, _, sh9⟩ := hm9.inst (s := s9) G9
  refine wpAny_execs_cons ?_
  refine wpAny_Assign_Name ?_
  refine MethodCall_ (nameX_L G9.fr e5 ?_)
  have X9 := W.X.keeps G9.fr.keep
  refine getm_any X9 Im9 (by k_is) (by decide +kernel) (by k_is) (by k_is) (by k_is) (by rfl) sh9 ?_
  refine callWith_K X9 (by k_is) (spliced_more (Calls.Constant_str (spliced_none ?_)))
  refine ⟨X9, ?_⟩
  obtain ⟨rl1, rl2⟩ := rows_wt (wd := wd) ys [] (Str.ofString "FLAGS (" ++ y0) hys
  have hlen9 : lines9.length < 100 := by
    rw [strsAre_len hr9]
    have := congrArg List.length hrw
    rw [List.length_append, List.length_singleton] at this
    simp only [List.length_nil] at rl2
    omega
  have hwt : ((rows' ++ [eStr (e0 ++ [(ff, strOf (ll ++ [41]))])]).map (·.length)).sum + (rows' ++ [eStr (e0 ++ [(ff, strOf (ll ++ [41]))])]).length ≤ 1048576 := by
    rw [hrw]
    have a1 : (Str.ofString "FLAGS (").length = 7 := by decide +kernel
    have := hy0.len
    rw [str_len_app] at rl1
    simp only [List.map_nil, List.sum_nil, List.length_nil] at rl1 rl2
    omega
  obtain ⟨q1, q2, q3, q4⟩ := last_ok e0 ff ll hll
  refine c_strm (s := ⟨s9.heap, _, _, _, _⟩) hm9 hr9 hE9 hsm (by rw [hff]; decide +kernel) q1 q2 q3 q4 hlen9 (by decide +kernel) hwt (R.le (by decide)) W G9 fun sb lb linesb tb hmb Bb => ?_
  rw [hrw]
  have Gb : Lg h₀ L m5 sb.heap (lb ++ (rest ++ [(wa, listO wv wn)])) := Bb.lg
  refine storeN Gb fun hc mc ec kc Gc => ?_
  obtain ⟨u1, u2, oku1, oku2, Gd⟩ := hmb.tabs Gc
  dsimp only
  refine wpAny_execs_cons ?_
  refine wpAny_If ?_
  refine wpAny_isTrue_Compare1 ?_
  refine nameX_L (s := ⟨hc, _, _, _, _⟩) Gd.fr ec ?_
  refine MethodCall_ (Calls.Constant_str ?_)
  refine GM.join ?_
  refine callWith_method1 (spliced_more ?_)
  refine Call_ (nameX_K (s := ⟨hc, _, _, _, _⟩) Gd.fr W.X W.T (by k_is) ?_)
  refine callWith_K (s := ⟨hc, _, _, _, _⟩) (W.X.keeps Gd.fr.keep) (by k_is) (spliced_more (nameX_L (s := ⟨hc, _, _, _, _⟩) Gd.fr (lk kc mo5) (spliced_more (nameX_L (s := ⟨hc, _, _, _, _⟩) Gd.fr (lk kc mw5) (spliced_none ?_)))))
  refine ⟨W.X.keeps Gd.fr.keep, ?_⟩
  have Ge : Lg h₀ L mc hc (([(182, tabO u1), (189, tabO u2)] ++ rest) ++ [(wa, listO wv wn)]) := by rw [List.append_assoc]; exact Gd
  refine c_rows (s := ⟨hc, _, _, _, _⟩) (rest := [(182, tabO u1), (189, tabO u2)] ++ (rest ++ [(wa, listO wv wn)])) (Ge.getR (i := 0) rfl) hwv (fun y hy => ?_) (by omega) (R.le (by decide)) W Gd fun sf b us nu hus Bf => ?_
  · rcases List.mem_cons.mp hy with rfl | hy
    · exact hy0.len
    · exact (hys y hy).len
  refine spliced_none ?_
  have Gf : Lg h₀ L mc sf.heap ([(b, listO us nu)] ++ ([(182, tabO u1), (189, tabO u2)] ++ (rest ++ [(wa, listO wv wn)]))) := Bf.lg
  rw [hrw] at hwt
  refine join_listW (s := ⟨sf.heap, _, _, _, _⟩) ⟨_, Gf.get (i := 0) rfl, rfl, _, rfl⟩ (by simpa using hus) (by decide +kernel) hwt fun t' k' => ?_
  refine ne_str ?_
  refine wpAny_truthy_bool ?_
  rw [show ((Txt.join (Str.ofString "\r\n") (rowsGo wd [] (Str.ofString "FLAGS (" ++ y0) ys)) != (Txt.join (Str.ofString "\r\n") (rowsGo wd [] (Str.ofString "FLAGS (" ++ y0) ys))) = false from by simp, if_neg (by decide)]
  refine wpAny_execs_nil ?_
  refine h ⟨sf.heap, _, _, _, _⟩ mc u1 u2 wa wv wn _ _ oku1 oku2 (fun y n1 n2 n3 => (kc y n3).trans ((k5 y n2).trans (k3 y n1))) (lk kc mo5) ec hwv (writ_rows wd y0 ys) (Gf.drop (List.sublist_append_right _ _)) ?_ ?_
  · exact Bf.os.trans (Bb.os.trans (B9.os.trans (B6.os.trans (B4.os.trans B2.os))))
  · exact fun g => Bf.gn (Bb.gn (B9.gn (B6.gn (B4.gn (B2.gn g)))))
end
end Mine
end
section
open PySem PySem.W PyProof.Rows PySem.Calls PySem.Spec Builtin
set_option Elab.async false
set_option maxRecDepth 100000
set_option maxHeartbeats 4000000
set_option pp.maxSteps 3000
namespace Mine
theorem fillT2 (w : World) (h₀ : Heap) : (hd.heap_1 w.params).In h₀ → PySem.Challenge.rw_zd0011_01.Holds → True := by k_fill; intros; trivial
/-- the words' texts as the reader must give them -/
noncomputable def exW (zs : List Str) (z : Str) : List Str := zs.map (· ++ comS) ++ [z]
theorem u8_octs (y : Str) : (u8 (tl y)).toArray = octs y := by
  show ((y.cps.toList).map Nat.toUInt8).toArray = y.cps.map Nat.toUInt8
  rw [← Array.toList_map]
theorem exB_of : ∀ (ys : List Str) (y0 : Str) (zs : List Str) (z : Str), y0 :: ys = zs ++ [z] → exB y0 ys = (exW zs z).map octs
  | [], y0, [], z, e => by
    simp only [List.nil_append, List.cons.injEq, and_true] at e
    subst e
    show [(u8 (tl y0)).toArray] = [octs y0]
    rw [u8_octs]
  | [], y0, x :: zs, z, e => by simp at e
  | y1 :: ys, y0, [], z, e => by simp at e
  | y1 :: ys, y0, x :: zs, z, e => by
    simp only [List.cons_append, List.cons.injEq] at e
    obtain ⟨rfl, e⟩ := e
    have := exB_of ys y1 zs z e
    show (u8 (tl y0 ++ [44])).toArray :: exB y1 ys = octs (y0 ++ comS) :: (exW zs z).map octs
    rw [this, ← u8_octs, tl_app, tl_com]
theorem word_asc {y : Str} (h : Word y) : Asc y := fun c hc => by have := (h.ok c (by simpa using hc)).2.1; omega
theorem word_size {y : Str} (h : Word y) : y.cps.size ≤ 20 := h.len
theorem asc_com {y : Str} (h : Word y) : Asc (y ++ comS) := fun c hc => by
  have hc' : c ∈ tl (y ++ comS) := by simpa using hc
  rw [tl_app, tl_com, List.mem_append] at hc'
  rcases hc' with hc' | hc'
  · have := (h.ok c hc').2.1; omega
  · rw [List.mem_singleton.mp hc']; decide
noncomputable abbrev z0 : Str := Str.ofString "0x0"
/-- what is kept of the reader's answer -/
noncomputable def hearS (l : List Str) : List Str := (l.filter fun x => octs x != octs z0).map fun x => Txt.replace x comS (Str.ofString "")
noncomputable def exL (l : List Str) : List Str := match l.getLast? with
  | some z => exW l.dropLast z
  | none => []
theorem hear_pre : ∀ mask, mask < 16 → ∀ first, first < 8 → hearS (exL (wordsS mask first)) = preW mask first 4 := by decide +kernel
theorem exL_of (zs : List Str) (z : Str) : exL (zs ++ [z]) = exW zs z := by
  unfold exL
  simp
theorem exW_word {zs : List Str} {z : Str} (hz : ∀ y ∈ zs ++ [z], Word y) : ∀ x ∈ exW zs z, Asc x ∧ x.cps ≠ #[] ∧ x.cps.size ≤ 21 := by
  intro x hx
  have ne : ∀ y, Word y → y.cps ≠ #[] := fun y h q => h.pos (by show y.cps.toList = []; rw [q])
  rcases List.mem_append.mp hx with hx | hx
  · obtain ⟨y, hy, rfl⟩ := List.mem_map.mp hx
    have h := hz y (List.mem_append_left _ hy)
    refine ⟨asc_com h, fun q => ?_, ?_⟩
    · have : tl (y ++ comS) = [] := by show (y ++ comS).cps.toList = []; rw [q]
      rw [tl_app, tl_com] at this
      simp at this
    · show (y ++ comS).length ≤ 21
      rw [str_len_app, len_com]
      have := h.len
      omega
  · have h := hz z (by simp)
    rw [List.mem_singleton.mp hx]
    exact ⟨word_asc h, ne _ h, by have := word_size h; omega⟩
end Mine
end
section
open PySem PySem.W PyProof.Rows PySem.Calls PySem.Spec Builtin
set_option Elab.async false
set_option maxRecDepth 100000
set_option maxHeartbeats 4000000
set_option pp.maxSteps 3000
namespace Mine
theorem fillT3 (w : World) (h₀ : Heap) : (hd.heap_1 w.params).In h₀ → PySem.Challenge.rw_zd0011_01.Holds → True := by k_fill; intros; trivial
theorem bys_app {vs us : List Value} {bs cs : List (Array UInt8)} : BysAre vs bs → BysAre us cs → BysAre (vs ++ us) (bs ++ cs)
  | .nil, h => h
  | .cons b t r, h => .cons b t (bys_app r h)
theorem bys_at : ∀ {vs : List Value} {bs : List (Array UInt8)}, BysAre vs bs → ∀ (j : Nat) (b : Array UInt8), bs[j]? = some b → ∃ t, vs[j]? = some (.bytes b t)
  | _, _, .nil, j, b, h => by simp at h
  | _, _, .cons c t r, 0, b, h => by simp at h; subst h; exact ⟨t, rfl⟩
  | _, _, .cons c t r, j + 1, b, h => by
    obtain ⟨t', h'⟩ := bys_at r j b (by simpa using h)
    exact ⟨t', by simpa using h'⟩
theorem drop_last {vs : List Value} {v : Value} : (slicePick (vs ++ [v]).toArray none (some (-1)) none).toList = vs := by
  rw [kmk_pick_nat (lo := none) (hi := some (-1)) (a := 0) (b := vs.length) _ (by
    rw [sliceBounds_plain]
    simp [clipAt]
    omega)]
  simp
theorem picked_butlast {b : Array UInt8} (h : 2 ≤ b.size) : KBy.picked b none (some (-1)) = (b.toList.take (b.size - 1)).toArray ∧ KBy.whole b none (some (-1)) = false := by
  have e : clipAt b.size (-1) = b.size - 1 := by
    unfold clipAt
    simp
    omega
  refine ⟨?_, ?_⟩
  · rw [KBc.picked_eq]
    simp [e]
  · unfold KBy.whole
    rw [sliceBounds_plain]
    simp only [Option.elim, e]
    have : (((b.size - 1 : Nat) : Int) == (b.size : Int)) = false := by
      rw [beq_eq_false_iff_ne]
      omega
    rw [this]
    simp
section
variable {w : World} {A : Around} {s : Shared}
theorem tup_same {l b : Addr} {vs us : List Value} {bs : List (Array UInt8)} (hv : BysAre vs bs) (hu : BysAre us bs) (h1 : s.heap.IsTuple l vs.toArray) (h2 : s.heap.IsTuple b us.toArray) (hr : A.units < cLine) : PySem.SeqAt.RcNeAt A s (.ref l) (.ref b) false := by
  have l1 := bysAre_len hv
  have l2 := bysAre_len hu
  have := PySem.SeqAt.RcNeAt.tuples (A := A) (s := s) h1 h2 (e := fun _ => true) hr fun j j1 j2 => by
    have hj : j < bs.length := by rw [← l1]; simpa using j1
    obtain ⟨t, e1⟩ := bys_at hv j bs[j] (List.getElem?_eq_getElem hj)
    obtain ⟨u, e2⟩ := bys_at hu j bs[j] (List.getElem?_eq_getElem hj)
    have q1 : vs.toArray[j] = .bytes bs[j] t := by
      have := List.getElem?_eq_some_iff.mp e1
      obtain ⟨_, q⟩ := this
      simpa using q
    have q2 : us.toArray[j] = .bytes bs[j] u := by
      have := List.getElem?_eq_some_iff.mp e2
      obtain ⟨_, q⟩ := this
      simpa using q
    rw [q1, q2]
    have := EqAtB (A := A.in1) (s := s) bs[j] t bs[j] u
    rwa [show (bs[j] == bs[j]) = true from beq_self_eq_true _] at this
  have e : (!((List.range (min vs.toArray.size us.toArray.size)).all (fun _ => true) && vs.toArray.size == us.toArray.size)) = false := by
    simp [l1, l2]
  rwa [e] at this
theorem tup_empty {l b : Addr} (h1 : s.heap.IsTuple l ([] : List Value).toArray) (h2 : s.heap.IsTuple b ([] : List Value).toArray) (hr : A.units < cLine) : PySem.SeqAt.RcNeAt A s (.ref l) (.ref b) false :=
  tup_same (bs := []) .nil .nil h1 h2 hr
end
theorem bod_ge : ∀ {ys : List Str} {b : List Nat}, Bod ys b → ys.length ≤ b.length
  | _, _, .nil => Nat.le_refl _
  | _, _, .sp r => by have := bod_ge r; simp; omega
  | _, _, .nl r => by have := bod_ge r; simp; omega
section
variable {w : World} {mg mb : Str → Option Value} {A : Around} {s : Shared} {h₀ h : Heap} {L K fa : Addr} {cd : Value} {m : Str → Option Value} {l la r rest news : List (Addr × Obj)} {E : Value → Shared → Prop} {Q : Flow → Shared → Prop}
theorem Lg.fin {D : Addr} {o : Obj} {m' : Str → Option Value} {g h : Heap} (G : Lg h₀ L m g news) (F : Fr h₀ L h m') (N : News h₀ L h ((D, o) :: news)) (off : LCg.Off1 D news) : Lg h₀ L m' h ((D, o) :: news) := ⟨F, N, by
  rw [List.map_cons, List.nodup_cons]
  refine ⟨fun hm => ?_, G.nd⟩
  obtain ⟨p, hp, e⟩ := List.mem_map.mp hm
  exact Off1.ne off p hp e⟩
theorem Lg.slice {D : Addr} {o : Obj} {m' : Str → Option Value} {g h : Heap} (G : Lg h₀ L m g news) (F : Fr h₀ L h m') (N : News h₀ L h ((D, o) :: news)) (off : ∀ p ∈ news, p.1 < D) : Lg h₀ L m' h ((D, o) :: news) := ⟨F, N, by
  rw [List.map_cons, List.nodup_cons]
  refine ⟨fun hm => ?_, G.nd⟩
  obtain ⟨p, hp, e⟩ := List.mem_map.mp hm
  exact absurd e (Nat.ne_of_lt (off p hp))⟩
theorem writ_flg {y0 x : Str} {ys : List Str} (h0 : Word y0) (hw : ∀ y ∈ ys, Word y) (hl : ys.length ≤ 3) (W : Writ y0 ys x) : ∃ n, x.cps.size = 7 + n + 1 ∧ x.cps.size ≤ 1000 ∧ Flg (nums (octs x)) n ∧ (nums (octs x)).size = 7 + n + 1 ∧ (nums (octs x)).getD (7 + n) 0 = 41 ∧
    wsCut ((octs x).extract 7 (7 + n)) = exB y0 ys ∧ Flg (nums ((octs x).toList.take ((octs x).size - 1)).toArray) n ∧ (nums ((octs x).toList.take ((octs x).size - 1)).toArray).size = 7 + n := by
  have ha := asc_writ h0 hw W
  obtain ⟨b, hb, e⟩ := W.b
  have l0 := h0.len
  rw [len_tl] at l0
  have p0 : 1 ≤ (tl y0).length := by
    cases q : tl y0 with
    | nil => exact absurd q h0.pos
    | cons _ _ => simp
  have lb := bod_len hb hw
  have lx : x.cps.size = (tl x).length := (Array.length_toList).symm
  have le : x.cps.size = 7 + (tl y0 ++ b).length + 1 := by
    rw [lx, e]
    simp only [List.length_append, List.length_cons, List.length_nil]
    omega
  have l1 : (tl y0 ++ b).length ≤ 100 := by rw [List.length_append]; omega
  have l2 : 1 ≤ (tl y0 ++ b).length := by rw [List.length_append]; omega
  have hno : ∀ c ∈ tl y0 ++ b, c ≠ 40 ∧ c ≠ 41 := fun c hc => by
    rcases List.mem_append.mp hc with hc | hc
    · exact ⟨(h0.ok c hc).2.2.1, (h0.ok c hc).2.2.2.1⟩
    · exact (bod_ok hb hw c hc).2
  have ol : (octs x).toList = u8 (tl x) := by
    show (x.cps.map Nat.toUInt8).toList = (x.cps.toList).map Nat.toUInt8
    rw [Array.toList_map]
  have ez : (octs x).size = x.cps.size := Array.size_map
  have eN := nums_octs ha
  have tk : (nums ((octs x).toList.take ((octs x).size - 1)).toArray).toList = [70, 76, 65, 71, 83, 32, 40] ++ ((tl y0 ++ b) ++ []) := by
    have a1 : nums ((octs x).toList.take ((octs x).size - 1)).toArray = ((nums (octs x)).toList.take ((octs x).size - 1)).toArray := by
      unfold nums
      apply Array.toList_inj.mp
      simp only [Array.toList_map, List.map_take]
    rw [a1, eN, ez]
    show (tl x).take (x.cps.size - 1) = _
    rw [e, le, List.append_nil, ← List.append_assoc]
    refine List.take_left' ?_
    simp only [List.length_append, List.length_cons, List.length_nil]
    omega
  refine ⟨(tl y0 ++ b).length, le, by omega, ?_, by rw [eN]; exact le, ?_, ?_, flg_of tk (.inl rfl) hno l2 (by omega), ?_⟩
  · rw [eN]
    exact flg_of (tail := [41]) e (.inr rfl) hno l2 (by omega)
  · rw [eN, getD_tl]
    show (tl x).getD _ 0 = 41
    rw [e, ← List.append_assoc]
    have q : 7 + (tl y0 ++ b).length = ([70, 76, 65, 71, 83, 32, 40] ++ (tl y0 ++ b)).length := by
      simp only [List.length_append, List.length_cons, List.length_nil]
    rw [q, List.getD_eq_getElem?_getD, List.getElem?_append_right (Nat.le_refl _), Nat.sub_self]
    rfl
  · have ex : ((octs x).extract 7 (7 + (tl y0 ++ b).length)).toList = u8 (tl y0 ++ b) := by
      rw [Array.toList_extract, List.extract_eq_take_drop, ol, e]
      have q : 7 + (tl y0 ++ b).length - 7 = (u8 (tl y0 ++ b)).length := by rw [List.length_map]; omega
      rw [q]
      show List.take _ (List.drop 7 (u8 ([70, 76, 65, 71, 83, 32, 40] ++ ((tl y0 ++ b) ++ [41])))) = _
      rw [show u8 ([70, 76, 65, 71, 83, 32, 40] ++ ((tl y0 ++ b) ++ [41])) = u8 [70, 76, 65, 71, 83, 32, 40] ++ (u8 (tl y0 ++ b) ++ u8 [41]) by simp [u8]]
      exact (congrArg _ (List.drop_left (l₁ := u8 [70, 76, 65, 71, 83, 32, 40]) (l₂ := u8 (tl y0 ++ b) ++ u8 [41]))).trans List.take_left
    unfold wsCut
    rw [ex]
    have q : ((octs x).extract 7 (7 + (tl y0 ++ b).length)).size = (tl y0 ++ b).length := by
      rw [← Array.length_toList, ex, List.length_map]
    rw [q]
    have lbb := bod_ge hb
    refine words_bod hb y0 _ _ h0 hw ?_ ?_
    · rw [List.length_append]; omega
    · rw [List.length_append]; omega
  · have := congrArg List.length tk
    rw [Array.length_toList] at this
    rw [this]
    simp only [List.length_append, List.length_cons, List.length_nil]
    omega
end
end Mine
end
section
open PySem PySem.W PyProof.Rows PySem.Calls PySem.Spec Builtin
set_option Elab.async false
set_option maxRecDepth 100000
set_option maxHeartbeats 4000000
set_option pp.maxSteps 3000
namespace Mine
theorem fillT4 (w : World) (h₀ : Heap) : (hd.heap_1 w.params).In h₀ → PySem.Challenge.rw_zd0011_01.Holds → True := by k_fill; intros; trivial
section
variable {w : World} {mg mb : Str → Option Value} {A : Around} {s : Shared} {h₀ h : Heap} {L K fa : Addr} {cd : Value} {m : Str → Option Value} {l la r rest news : List (Addr × Obj)} {E : Value → Shared → Prop} {Q : Flow → Shared → Prop}
theorem get_lastH {a : Addr} {vs : List Value} {v : Value} {n : Nat} {t : Tok} {Q : Value → Shared → Prop} (ha : s.heap.get? a = some (listO (vs ++ [v]) n)) (hz : vs.length ≤ 1000) (h : Q v s) : wpAny (model PP w) A (getItem (.ref a) (.int (-1) t)) Q E s := by
  have hsz : (vs ++ [v]).toArray.size = vs.length + 1 := by simp
  refine wpAny_getItem_list_neg (items := (vs ++ [v]).toArray) ⟨_, ha, rfl, _, rfl⟩ (by decide) (by rw [hsz]; omega) (by decide) (x := v) ?_ h
  rw [hsz, show ((-1 : Int) + ((vs.length + 1 : Nat) : Int)).toNat = vs.length by omega]
  simp
theorem turn_b {zs : List Str} {z y0 x : Str} {ys : List Str} {wv : List Value} {wa : Addr} {wn : Nat} {tx : Tok} (hwv : StrsAre wv (zs ++ [z])) (hz : ∀ y ∈ zs ++ [z], Word y) (he : y0 :: ys = zs ++ [z]) (hl : ys.length ≤ 3) (hW : Writ y0 ys x) (R : Rm A 30) (W : Wd w mg mb h₀)
    (G : Lg h₀ L m s.heap news) (hw : (wa, listO wv wn) ∈ news) (m1 : m "words" = some (.ref wa)) (m2 : m "written" = some (.str x tx))
    (h : ∀ s' m' n ot ft fv, (∀ y, y ≠ ("octets" : Str) → y ≠ ("flags" : Str) → m' y = m y) → m' "octets" = some (.bytes (octs x) ot) → m' "flags" = some (.ref ft) → BysAre fv ((exW zs z).map octs) →
      2 ≤ (octs x).size → (octs x).size ≤ 1000 → Flg (nums ((octs x).toList.take ((octs x).size - 1)).toArray) n → (nums ((octs x).toList.take ((octs x).size - 1)).toArray).size = 7 + n →
      Lg h₀ L m' s'.heap ((ft, tupObj fv) :: news) → s'.os = s.os → (AllBare s.gens → AllBare s'.gens) → wpAny (model PP w) A (execs (lawFor1.drop 8) (lawEnv L fa cd)) Q E s') :
    wpAny (model PP w) A (execs (lawFor1.drop 5) (lawEnv L fa cd)) Q E s := by
  have h0w : Word y0 := hz y0 (by rw [← he]; exact List.mem_cons_self)
  have hyw : ∀ y ∈ ys, Word y := fun y hy => hz y (by rw [← he]; exact List.mem_cons_of_mem _ hy)
  have ha := asc_writ h0w hyw hW
  obtain ⟨n, sz, sz2, F1, F2, F3, F4, F5, F6⟩ := writ_flg h0w hyw hl hW
  rw [exB_of ys y0 zs z he] at F4
  have hwl := strsAre_len hwv
  have hzl : zs.length ≤ 3 := by
    have := congrArg List.length he
    simp at this
    omega
  obtain ⟨wu, tz, hwu, rfl⟩ : ∃ (wu : List Value) (tz : Tok), StrsAre wu zs ∧ wv = wu ++ [Value.str z tz] := by
    obtain ⟨tz, e⟩ := strsAre_at hwv zs.length z (by simp)
    have hlen : wv.length = zs.length + 1 := by rw [hwl]; simp
    refine ⟨wv.take zs.length, tz, ?_, ?_⟩
    · have := PyProof.Rows.StrsAre.take' hwv zs.length
      rwa [List.take_left] at this
    · refine List.ext_getElem? fun i => ?_
      by_cases q : i < zs.length
      · rw [List.getElem?_append_left (by simp; omega), List.getElem?_take_of_lt q]
      · by_cases q2 : i = zs.length
        · subst q2
          have hm : (wv.take zs.length).length = zs.length := by rw [List.length_take]; omega
          rw [e, List.getElem?_append_right (by omega), hm, Nat.sub_self]
          rfl
        · rw [List.getElem?_eq_none (by omega), List.getElem?_eq_none (by simp; omega)]
  unfold lawFor1 at h ⊢
  refine wpAny_execs_cons ?_
  refine wpAny_Assign_Name ?_
  refine MethodCall_ (nameX_L G.fr m2 ?_)
  refine PySem.GM.of (.str x tx) (typeIs_str _ _ _) F.slot_str_encode F.type_str_encode PySem.GM.noRef ?_
  refine callWith_method1 (spliced_more (Calls.Constant_str (spliced_none ?_)))
  refine c_encode ha (by omega) fun t1 => ?_
  refine storeN G fun h1 m1' e1 k1 G1 => ?_
  dsimp only
  refine wpAny_execs_cons ?_
  refine wpAny_Assign_Name ?_
  refine Call_ (nameX_K (s := ⟨h1, _, _, _, _⟩) G1.fr W.X W.T (by k_is) ?_)
  refine callWith_K (s := ⟨h1, _, _, _, _⟩) (W.X.keeps G1.fr.keep) (by k_is) (spliced_more (nameX_L (s := ⟨h1, _, _, _, _⟩) G1.fr e1 (spliced_none ?_)))
  refine ⟨W.X.keeps G1.fr.keep, ?_⟩
  refine c_parse_yes (s := ⟨h1, _, _, _, _⟩) (n := n) F1 F2 F3 (R.le (by decide)) W G1 fun s2 ft fv hfv B2 => ?_
  rw [F4] at hfv
  have hfl := bysAre_len hfv
  refine storeN B2.lg fun h3 m3 e3 k3 G3 => ?_
  replace G3 : Lg h₀ L m3 h3 ((ft, tupObj fv) :: news) := G3
  dsimp only
  have mw3 : m3 "words" = some (.ref wa) := lk k3 (lk k1 m1)
  refine wpAny_execs_cons ?_
  refine wpAny_If ?_
  refine wpAny_isTrue_Compare1 ?_
  refine nameX_L (s := ⟨h3, _, _, _, _⟩) G3.fr e3 ?_
  refine Call_ ?_
  refine nameX_B (s := ⟨h3, _, _, _, _⟩) G3.fr W.X W.T (by k_is) (by boot_by_name) (by decide) ?_
  refine PyProof.Rows.callWith_type1 (spliced_more (wpAny_BinOp ?_))
  refine LCg.ListComp_U (s := ⟨h3, _, _, _, _⟩) G3.fr (cl := []) (by with_unfolding_all rfl) (by decide) (by rfl) (by decide) (by rfl) ?_
  refine Subscript_ (nameX_L (s := ⟨h3, _, _, _, _⟩) G3.fr mw3 ?_)
  refine wpAny_Slice ?_
  rw [evalPart_some, evalPart_none]
  refine wpAny_pure ?_
  refine UnaryOp_ (wpAny_Constant_int (neg_int (wpAny_pure ?_)))
  dsimp only
  have hw3 : h3.get? wa = some (listO (wu ++ [Value.str z tz]) wn) := (G3.nw _ (List.mem_cons_of_mem _ hw)).1
  refine kmk_slice_lit (s := ⟨h3, _, _, _, _⟩) (zs := wu) (its := (wu ++ [Value.str z tz]).toArray) G3.fr G3.nw ⟨_, hw3, rfl, _, rfl⟩ .none (.int _ _) drop_last (fun D h4 F4' N4 hlt => ?_) (by rfl) (by intro _; rfl) (by rw [List.size_toArray]; exact size_fits' (by rw [hwl]; simp; omega))
  have G4 : Lg h₀ L m3 h4 ((D, listO wu 0) :: (ft, tupObj fv) :: news) := G3.slice F4' N4 hlt
  have hwul := strsAre_len hwu
  refine LCg.CompSrc.ledger R.h G4.fr G4.nw List.mem_cons_self (by rw [List.size_toArray]; exact size_fits' (by omega)) (fun gh => ?_)
  rw [show wu.toArray.size = zs.length by rw [List.size_toArray]; exact hwul]
  refine restU_inv (n := zs.length) (I := fun i us nw => BysAre us ((zs.take i).map fun y => octs (y ++ comS)) ∧ nw = (D, listO wu 0) :: (ft, tupObj fv) :: news) ?_ ?_ zs.length 0 [] _ (by omega) ⟨.nil, rfl⟩
  · rintro k i us nw hik ⟨hI, rfl⟩ ih
    refine LCg.CompRest.succ ?_
    rintro v I oI C oC D2 m₂ h5 tk5 E' hv hC hx F5' N5 off5 ne5
    dsimp only
    have gC : h5.Ns C m₂ := hC.ns (N5 (C, oC) (by simp)).1
    have hi : i < zs.length := by omega
    obtain ⟨ty, hy⟩ := strsAre_at hwu i zs[i] (List.getElem?_eq_getElem hi)
    have hv' : v = .str zs[i] ty := by
      have : wu[i]? = some v := by simpa using hv
      rw [hy] at this
      exact (Option.some.inj this).symm
    subst hv'
    have hyw' : Word zs[i] := hz _ (List.mem_append_left _ (List.getElem_mem hi))
    have hyl := hyw'.len
    refine MethodCall_ ?_
    refine wpAny_BinOp (wpAny_Name (wpAny_loadName_local rfl (by rfl) gC hx ?_) (by decide))
    refine Calls.Constant_str ?_
    refine SBL.add (fun t6 k6 _ => ?_) (size_fits' (by have : (Str.ofString ",").length = 1 := by decide +kernel
                                                       omega))
    refine PySem.GM.of (.str _ t6) (typeIs_str _ _ _) F.slot_str_encode F.type_str_encode PySem.GM.noRef ?_
    refine callWith_method1 (spliced_more (Calls.Constant_str (spliced_none ?_)))
    refine c_encode (asc_com hyw') (by have := str_len_app zs[i] comS
                                       have l1 := len_com
                                       show (zs[i] ++ comS).length ≤ _
                                       omega) fun t7 => ?_
    refine LCg.CompEnd.intro F5' N5 _ (fun p hp => hp) off5 (.inr ⟨_, List.mem_cons_self, rfl, _, rfl⟩) (ih _ _ ⟨?_, rfl⟩)
    rw [List.take_succ_eq_append_getElem hi, List.map_append]
    exact bys_app hI (.cons _ _ .nil)
  · rintro us nw ⟨hI, rfl⟩ D3 h6 tk6 F6' N6 off6
    dsimp only
    rw [List.take_length] at hI
    have hul := bysAre_len hI
    rw [List.length_map] at hul
    have G6 := G4.fin F6' N6 off6
    have hw6 : h6.get? wa = some (listO (wu ++ [Value.str z tz]) wn) := (G6.nw _ (List.mem_cons_of_mem _ (List.mem_cons_of_mem _ (List.mem_cons_of_mem _ hw)))).1
    refine List_ (spliced_more (MethodCall_ (Subscript_ (nameX_L (s := ⟨h6, _, _, _, _⟩) G6.fr mw3 ?_))))
    refine UnaryOp_ (wpAny_Constant_int (neg_int ?_))
    refine subscriptTail_builtin (s := ⟨h6, _, _, _, _⟩) (T := "list") ⟨_, hw6, rfl⟩ list_getitem_lookup (get_lastH (s := ⟨h6, _, _, _, _⟩) hw6 (by omega) ?_)
    refine PySem.GM.of (.str z tz) (typeIs_str _ _ _) F.slot_str_encode F.type_str_encode PySem.GM.noRef ?_
    refine callWith_method1 (spliced_more (Calls.Constant_str (spliced_none ?_)))
    have hzw : Word z := hz z (by simp)
    refine c_encode (word_asc hzw) (by have := word_size hzw; omega) fun t8 => ?_
    refine spliced_none ?_
    refine wpAny_newObj_type ?_ (by show 1 ≤ sizeLine; rw [sizeLine_eq]; omega)
    dsimp only
    have G7 := G6.alloc (listO [.bytes (octs z) t8] 0)
    refine add_lists (s := ⟨_, _, _, _, _⟩) (vs := us) (ws := [Value.bytes (octs z) t8]) G7.fr G7.nw ⟨_, G7.get (i := 1) rfl, rfl, _, rfl⟩ ⟨_, G7.get (i := 0) rfl, rfl, _, rfl⟩ (fun h8 F8' N8 => ?_) (size_fits' (by simp; omega))
    have G8 := G7.slice F8' N8 fun p hp => G7.lt hp
    refine spliced_none ?_
    refine call_tuple_list (s := ⟨h8, _, _, _, _⟩) (items := (us ++ [Value.bytes (octs z) t8]).toArray) ⟨_, G8.get (i := 0) rfl, rfl, _, rfl⟩ (fun h9 k9 => ?_) (by rw [List.size_toArray]; exact size_fits' (by simp; omega))
    have G9 := (G8.ext k9).alloc (tupObj (us ++ [Value.bytes (octs z) t8]))
    have hex : BysAre (us ++ [Value.bytes (octs z) t8]) ((exW zs z).map octs) := by
      unfold exW
      rw [List.map_append, List.map_map]
      exact bys_app hI (.cons _ _ .nil)
    have Gt := G9.get (i := 5) rfl
    refine (tup_same hfv hex ⟨_, G9.get (i := 5) rfl, rfl, _, rfl⟩ ⟨_, G9.get (i := 0) rfl, rfl, _, rfl⟩ (by have := R.u; omega)) _ _ _ _ ?_
    refine wpAny_truthy_bool ?_
    rw [if_neg (by decide)]
    refine wpAny_execs_nil ?_
    dsimp only
    refine h ⟨_, _, _, _, _⟩ m3 n t1 ft fv (fun y n1 n2 => (k3 y n2).trans (k1 y n1)) (lk k3 e1) e3 hfv (by rw [Array.size_map]; omega) (by rw [Array.size_map]; omega) F5 F6 (G9.drop (.cons _ (.cons _ (.cons _ (.cons _ (.cons _ (.refl _))))))) B2.os B2.gn
end
end Mine
end
section
open PySem PySem.W PyProof.Rows PySem.Calls PySem.Spec Builtin
set_option Elab.async false
set_option maxRecDepth 100000
set_option maxHeartbeats 4000000
set_option pp.maxSteps 3000
namespace Mine
theorem fillT5 (w : World) (h₀ : Heap) : (hd.heap_1 w.params).In h₀ → PySem.Challenge.rw_zd0011_01.Holds → True := by k_fill; intros; trivial
theorem hearS_snoc (l : List Str) (i : Nat) (hi : i < l.length) : hearS (l.take (i + 1)) = hearS (l.take i) ++ (if octs l[i] = octs z0 then [] else [Txt.replace l[i] comS (Str.ofString "")]) := by
  unfold hearS
  rw [List.take_succ_eq_append_getElem hi, List.filter_append, List.map_append]
  by_cases q : octs l[i] = octs z0
  · rw [if_pos q]
    have : (octs l[i] != octs z0) = false := by rw [q]; simp
    simp [this]
  · rw [if_neg q]
    have : (octs l[i] != octs z0) = true := by simpa using q
    simp [this]
section
variable {w : World} {mg mb : Str → Option Value} {A : Around} {s : Shared} {h₀ h : Heap} {L K fa : Addr} {cd : Value} {m : Str → Option Value} {l la r rest news : List (Addr × Obj)} {E : Value → Shared → Prop} {Q : Flow → Shared → Prop}
theorem turn_c {zs : List Str} {z : Str} {b : Array UInt8} {n hi nh : Nat} {ot : Tok} {ft he : Addr} {fv hv : List Value} (hz : ∀ y ∈ zs ++ [z], Word y) (hzl : zs.length ≤ 3) (hfv : BysAre fv ((exW zs z).map octs)) (hb2 : 2 ≤ b.size) (hbz : b.size ≤ 1000)
    (F5 : Flg (nums (b.toList.take (b.size - 1)).toArray) n) (F6 : (nums (b.toList.take (b.size - 1)).toArray).size = 7 + n) (R : Rm A 30) (W : Wd w mg mb h₀)
    (G : Lg h₀ L m s.heap ((ft, tupObj fv) :: news)) (m1 : m "octets" = some (.bytes b ot)) (m2 : m "flags" = some (.ref ft)) (m3 : m "heard" = some (.ref he)) (hhe : news[hi]? = some (he, listO hv nh)) (hhl : hv.length ≤ 100)
    (h : ∀ s' ra us k n', StrsAre us (hearS (exW zs z)) → Lg h₀ L m s'.heap ((ra, listO us k) :: news.set hi (he, listO (hv ++ [.ref ra]) n')) → s'.os = s.os → (AllBare s.gens → AllBare s'.gens) → Q .next s') :
    wpAny (model PP w) A (execs (lawFor1.drop 8) (lawEnv L fa cd)) Q E s := by
  have hfl := bysAre_len hfv
  have hxl : (exW zs z).length = zs.length + 1 := by unfold exW; simp
  rw [List.length_map] at hfl
  obtain ⟨pk1, pk2⟩ := picked_butlast hb2
  unfold lawFor1
  refine wpAny_execs_cons ?_
  refine wpAny_If ?_
  refine wpAny_isTrue_Compare1 ?_
  refine Call_ (nameX_K G.fr W.X W.T (by k_is) ?_)
  refine callWith_K (W.X.keeps G.fr.keep) (by k_is) (spliced_more ?_)
  refine Subscript_ (nameX_L G.fr m1 ?_)
  refine wpAny_Slice ?_
  rw [evalPart_some, evalPart_none]
  refine wpAny_pure ?_
  refine UnaryOp_ (wpAny_Constant_int (neg_int (wpAny_pure ?_)))
  dsimp only
  refine KBy.slice_N (s := ⟨s.heap, s.gens, s.drawn, s.toks + 1 + 1, s.os⟩) G.fr G.nw .none (.int _ _) pk2 (by rw [pk1]; simp; omega) (fun h1 t1 k1 F1 N1 => ?_) (by rfl) (by intro _; rfl)
  rw [pk1]
  have G1 : Lg h₀ L m h1 ((ft, tupObj fv) :: news) := ⟨F1, N1, G.nd⟩
  refine spliced_none ?_
  dsimp only
  refine ⟨W.X.keeps G1.fr.keep, ?_⟩
  refine c_parse_no (s := ⟨h1, _, _, _, _⟩) (n := n) F5 F6 (R.le (by decide)) W G1 fun s2 a B2 => ?_
  have G2 : Lg h₀ L m s2.heap ((a, tupObj []) :: (ft, tupObj fv) :: news) := B2.lg
  refine Tuple_ (spliced_none ?_)
  refine wpAny_newObj_type ?_
  have G3 := G2.alloc (tupObj [])
  refine (tup_empty ⟨_, G3.get (i := 1) rfl, rfl, _, rfl⟩ ⟨_, G3.get (i := 0) rfl, rfl, _, rfl⟩ (by have := R.u; omega)) _ _ _ _ ?_
  refine wpAny_truthy_bool ?_
  rw [if_neg (by decide)]
  refine wpAny_execs_nil ?_
  dsimp only
  obtain ⟨h4, e4⟩ : ∃ h4, h4 = s2.heap.push (tupObj []) := ⟨_, rfl⟩
  have G4 : Lg h₀ L m h4 ((ft, tupObj fv) :: news) := by rw [e4]; exact G3.drop (.cons _ (.cons _ (.refl _)))
  show wpAny (model PP w) A _ _ E ⟨s2.heap.push (tupObj []), _, _, _, _⟩
  rw [← e4]
  refine wpAny_execs_cons ?_
  refine wpAny_Expr_any ?_
  refine MethodCall_ (nameX_L (s := ⟨h4, _, _, _, _⟩) G4.fr m3 ?_)
  have hhe' : ((ft, tupObj fv) :: news)[hi + 1]? = some (he, listO hv nh) := by simpa using hhe
  refine Calls.getMethod_list_append (s := ⟨h4, _, _, _, _⟩) (G4.get hhe') rfl rfl ?_
  refine callWith_method1 (spliced_more ?_)
  refine ListComp_tup (s := ⟨h4, _, _, _, _⟩) (h₀ := h₀) (L := L) (m := m) (cl := []) (by with_unfolding_all rfl) (by decide) (by rfl) (by decide) (by rfl) ?_
  refine nameX_L (s := ⟨h4, _, _, _, _⟩) G4.fr m2 ?_
  refine ⟨ft, fv, _, rfl, R.h, G4.fr, G4.nw, List.mem_cons_self, size_fits' (by omega), ?_⟩
  rintro s₂ ⟨g, rfl⟩
  rw [hfl]
  refine restT_inv (n := (exW zs z).length) (I := fun i us => StrsAre us (hearS ((exW zs z).take i))) ?_ ?_ (exW zs z).length 0 [] (by omega) .nil
  · rintro k i us hik hI ih
    refine LCt.CompRestT.succ ?_
    rintro v I oI C oC D2 m₂ h5 tk5 E' hv' hC hx F5' N5 off5 ne5
    dsimp only
    have gC : h5.Ns C m₂ := hC.ns (N5 (C, oC) (by simp)).1
    have hi' : i < (exW zs z).length := by omega
    obtain ⟨ty, hy⟩ := bys_at hfv i (octs (exW zs z)[i]) (by simp [hi'])
    have ev : v = .bytes (octs (exW zs z)[i]) ty := by
      rw [hy] at hv'
      exact (Option.some.inj hv').symm
    subst ev
    obtain ⟨x1, x2, x3⟩ := exW_word hz _ (List.getElem_mem hi')
    refine wpAny_isTrue_Compare1 ?_
    refine wpAny_Name (wpAny_loadName_local rfl (by rfl) gC hx ?_) (by decide)
    refine Constant_bytes ?_
    refine ne_bytes ?_
    refine wpAny_truthy_bool ?_
    have ez0 : ∀ bs : List UInt8, bs = [48, 120, 48] → bs.toArray.toList = (octs z0).toList := by
      rintro bs rfl
      decide +kernel
    rw [ez0 _ rfl]
    by_cases q : octs (exW zs z)[i] = octs z0
    · rw [show ((octs (exW zs z)[i]).toList != (octs z0).toList) = false by rw [q]; simp, if_neg (by decide)]
      refine LCg.CompEnd.intro F5' N5 _ (fun p hp => hp) off5 List.mem_cons_self (ih _ ?_)
      rw [hearS_snoc _ _ hi', if_pos q, List.append_nil]
      exact hI
    · rw [show ((octs (exW zs z)[i]).toList != (octs z0).toList) = true by rw [bne_iff_ne]; exact fun e => q (Array.toList_inj.mp e), if_pos rfl]
      refine MethodCall_ ?_
      refine MethodCall_ ?_
      refine wpAny_Name (wpAny_loadName_local rfl (by rfl) gC hx ?_) (by decide)
      refine getMethod_builtin (T := "bytes") (typeIs_bytes _ _ _) FB.plainAttrs_bytes FB.slot_bytes_decode FB.type_bytes_decode KBd.noRef ?_
      refine callWith_method1 (spliced_more (Calls.Constant_str (spliced_none ?_)))
      refine c_decode x1 x2 (by omega) fun t6 k6 hk6 => ?_
      refine PySem.GM.replace ?_
      refine callWith_method1 ?_
      refine spliced_more (Calls.Constant_str (spliced_more (Calls.Constant_str (spliced_none ?_))))
      dsimp only
      refine SC.replaceW (Nat.ne_of_gt (Nat.lt_of_le_of_lt (Nat.zero_le _) hk6)) (Nat.succ_ne_zero _) (Nat.ne_of_lt (Nat.lt_succ_self _)) (by decide +kernel) (by show (exW zs z)[i].cps.size ≤ _; omega) (by decide +kernel) fun t7 k7 => ?_
      refine LCg.CompEnd.intro F5' N5 _ (fun p hp => hp) off5 List.mem_cons_self (ih _ ?_)
      rw [hearS_snoc _ _ hi', if_neg q]
      exact strsAre_append _ _ hI
  · intro us hus D3 h6 tk6 F6' N6 off6
    dsimp only
    rw [List.take_length] at hus
    have G6 := G4.fin F6' N6 off6
    refine spliced_none ?_
    refine lst_append (s := ⟨h6, _, _, _, _⟩) (la := [(D3, LCg.lst us), (ft, tupObj fv)]) (r := news) G6 (i := hi) hhe (by omega) fun h7 n7 G7 _ => ?_
    dsimp only
    refine wpAny_execs_nil ?_
    exact h ⟨h7, _, _, _, _⟩ D3 us _ n7 hus (G7.drop (.cons_cons _ (.cons _ (.refl _)))) B2.os B2.gn
end
end Mine
end
section
open PySem PySem.W PyProof.Rows PySem.Calls PySem.Spec Builtin
set_option Elab.async false
set_option maxRecDepth 100000
set_option maxHeartbeats 4000000
set_option pp.maxSteps 3000
namespace Mine
theorem fillT6 (w : World) (h₀ : Heap) : (hd.heap_1 w.params).In h₀ → PySem.Challenge.rw_zd0011_01.Holds → True := by k_fill; intros; trivial
/-- small numbers in a list -/
noncomputable def NatsAre (vs : List Value) (ks : List Nat) : Prop := vs.length = ks.length ∧ ∀ (i k : Nat), ks[i]? = some k → ∃ t, vs[i]? = some (Value.int (k : Int) t)
theorem words_last (mask first : Nat) (y0 : Str) (ys : List Str) (e : wordsS mask first = y0 :: ys) : ∃ zs z, y0 :: ys = zs ++ [z] ∧ hearS (exW zs z) = hearS (exL (wordsS mask first)) := by
  refine ⟨(y0 :: ys).dropLast, (y0 :: ys).getLast (by simp), (List.dropLast_concat_getLast (by simp)).symm, ?_⟩
  rw [e, ← exL_of, List.dropLast_concat_getLast (by simp)]
section
variable {w : World} {mg mb : Str → Option Value} {A : Around} {s : Shared} {h₀ h : Heap} {L K fa : Addr} {cd : Value} {m : Str → Option Value} {l la r rest news : List (Addr × Obj)} {E : Value → Shared → Prop} {Q : Flow → Shared → Prop}
theorem turn {mask first : Nat} {wd : Int} {tm tf tw : Tok} {t1 t2 : List Value} {he : Addr} {hv : List Value} {nh : Nat} {p : Addr × Obj} (hm : mask < 16) (hf : first < 8) (R : Rm A 30) (W : Wd w mg mb h₀) (ok1 : TriplesOk t1) (ok2 : TriplesOk t2)
    (G : Lg h₀ L m s.heap ([(182, tabO t1), (189, tabO t2)] ++ ((he, listO hv nh) :: p :: rest))) (m1 : m "mask" = some (.int mask tm)) (m2 : m "first" = some (.int first tf)) (m3 : m "width" = some (.int wd tw)) (m4 : m "heard" = some (.ref he)) (hhl : hv.length ≤ 100)
    (h : ∀ s' m' t1' t2' ra us k n', TriplesOk t1' → TriplesOk t2' → (∀ y, y ≠ ("words" : Str) → y ≠ ("maker" : Str) → y ≠ ("written" : Str) → y ≠ ("octets" : Str) → y ≠ ("flags" : Str) → m' y = m y) → StrsAre us (preW mask first 4) →
      Lg h₀ L m' s'.heap ([(182, tabO t1'), (189, tabO t2')] ++ ((he, listO (hv ++ [.ref ra]) n') :: p :: (rest ++ [(ra, listO us k)]))) → s'.os = s.os → (AllBare s.gens → AllBare s'.gens) → Q .next s') :
    wpAny (model PP w) A (execs lawFor1 (lawEnv L fa cd)) Q E s := by
  obtain ⟨y0, ys, hw1, hy0, hys, hyl⟩ := words_split mask hf
  obtain ⟨zs, z, hzz, hhe⟩ := words_last mask first y0 ys hw1
  rw [hear_pre mask hm first hf] at hhe
  have hzw : ∀ y ∈ zs ++ [z], Word y := fun y hy => by
    rw [← hzz] at hy
    rcases List.mem_cons.mp hy with rfl | hy
    · exact hy0
    · exact hys y hy
  have hzl : zs.length ≤ 3 := by
    have := congrArg List.length hzz
    simp at this
    omega
  refine turn_a hm hf hw1 hy0 hys hyl R W ok1 ok2 G m1 m2 m3 fun s1 ma u1 u2 wa wv wn x tx oku1 oku2 ka wma wmt hwv hW G1 os1 gn1 => ?_
  rw [hzz] at hwv
  have wmem : (wa, listO wv wn) ∈ [(182, tabO u1), (189, tabO u2)] ++ (((he, listO hv nh) :: p :: rest) ++ [(wa, listO wv wn)]) := by simp
  refine turn_b hwv hzw hzz hyl hW R W G1 wmem wma wmt fun s2 mc n ot ft fv kb mo mf hfv b2 bz F5 F6 G2 os2 gn2 => ?_
  have mh : mc "heard" = some (.ref he) := (kb _ (by decide) (by decide)).trans ((ka _ (by decide) (by decide) (by decide)).trans m4)
  refine turn_c (hi := 2) (nh := nh) hzw hzl hfv b2 bz F5 F6 R W G2 mo mf mh rfl hhl fun s3 ra us k n' hus G3 os3 gn3 => ?_
  rw [hhe] at hus
  have G3' : Lg h₀ L mc s3.heap ((ra, listO us k) :: (([(182, tabO u1), (189, tabO u2)] ++ ((he, listO (hv ++ [.ref ra]) n') :: p :: rest)) ++ [(wa, listO wv wn)])) := G3
  have G4 : Lg h₀ L mc s3.heap ((ra, listO us k) :: ([(182, tabO u1), (189, tabO u2)] ++ ((he, listO (hv ++ [.ref ra]) n') :: p :: rest))) := G3'.drop (.cons_cons _ (List.sublist_append_left _ _))
  have G5 := G4.perm (List.perm_append_singleton _ _)
  refine h s3 mc u1 u2 ra us k n' oku1 oku2 (fun y n1 n2 n3 n4 n5 => (kb y n4 n5).trans (ka y n1 n2 n3)) hus ?_ (os3.trans (os2.trans os1)) (fun g => gn3 (gn2 (gn1 g)))
  exact G5
theorem for1 {masks : List Nat} {first : Nat} {wd : Int} {tf tw : Tok} {t1 t2 : List Value} {ml he : Addr} {mv : List Value} {mn hn : Nat} {base : List (Addr × Obj)} (hms : masks.length = 4) (hlt : ∀ k ∈ masks, k < 16) (hmv : NatsAre mv masks) (hf : first < 8) (R : Rm A 30) (W : Wd w mg mb h₀) (ok1 : TriplesOk t1) (ok2 : TriplesOk t2)
    (G : Lg h₀ L m s.heap ([(182, tabO t1), (189, tabO t2)] ++ ((he, listO [] hn) :: base))) (hml : (ml, listO mv mn) ∈ base) (m1 : m "masks" = some (.ref ml)) (m2 : m "first" = some (.int first tf)) (m3 : m "width" = some (.int wd tw)) (m4 : m "heard" = some (.ref he))
    (h : ∀ s' m' t1' t2' hv rl hn', TriplesOk t1' → TriplesOk t2' → HeardAre hv rl (masks.map fun k => preW k first 4) → m' "masks" = some (.ref ml) → m' "first" = some (.int first tf) → m' "heard" = some (.ref he) →
      Lg h₀ L m' s'.heap ([(182, tabO t1'), (189, tabO t2')] ++ ((he, listO hv hn') :: (base ++ rl))) → s'.os = s.os → (AllBare s.gens → AllBare s'.gens) → wpAny (model PP w) A (execs (lawBody.drop 7) (lawEnv L fa cd)) Q E s') :
    wpAny (model PP w) A (execs (lawBody.drop 6) (lawEnv L fa cd)) Q E s := by
  obtain ⟨hmvl, hmvv⟩ := hmv
  obtain ⟨hh, gg, dd, tk0, oo⟩ := s
  dsimp only at G h
  have hseq0 := (G.nw _ (List.mem_append_right _ (List.mem_cons_of_mem _ hml))).1
  refine wpAny_execs_cons ?_
  refine wpAny_For ?_
  refine nameX_L (s := ⟨hh, _, _, _, _⟩) G.fr m1 ?_
  refine wpAny_pyIter_list (s := ⟨hh, _, _, _, _⟩) (items := mv.toArray) ⟨_, hseq0, rfl, _, rfl⟩ ?_
  dsimp only
  have G5 := G.alloc (iterO ml)
  generalize hh.objs.size = it at G5 ⊢
  have G6 : Lg h₀ L m (hh.push (iterO ml)) ([(182, tabO t1), (189, tabO t2)] ++ ((he, listO [] hn) :: (it, iterO ml) :: base)) := G5.perm ((List.perm_middle (l₁ := [(182, tabO t1), (189, tabO t2), (he, listO [] hn)])))
  refine codeAny_mono (R := fun r s' => r = .ok .next ∧ s'.os = oo ∧ (AllBare gg → AllBare s'.gens) ∧ ∃ m' t1' t2' hv rl hn', TriplesOk t1' ∧ TriplesOk t2' ∧ HeardAre hv rl (masks.map fun k => preW k first 4) ∧ m' "masks" = some (.ref ml) ∧ m' "first" = some (.int first tf) ∧ m' "heard" = some (.ref he) ∧
      Lg h₀ L m' s'.heap ([(182, tabO t1'), (189, tabO t2')] ++ ((he, listO hv hn') :: (base ++ rl)))) ?_ (fun r s' hr => ?_)
  · refine loop_inv (I := fun k s' => ∃ hX gX dX tX m' t1' t2' hv rl hn' oit i, s' = ⟨hX, gX, dX, tX, oo⟩ ∧ (AllBare gg → AllBare gX) ∧ i + k = masks.length ∧ TriplesOk t1' ∧ TriplesOk t2' ∧ HeardAre hv rl ((masks.take i).map fun k => preW k first 4) ∧ m' "masks" = some (.ref ml) ∧ m' "first" = some (.int first tf) ∧ m' "width" = some (.int wd tw) ∧ m' "heard" = some (.ref he) ∧
        hX.IsListIter it ml i ∧ Lg h₀ L m' hX ([(182, tabO t1'), (189, tabO t2')] ++ ((he, listO hv hn') :: (it, oit) :: (base ++ rl)))) ?_ masks.length _
      ⟨_, _, _, _, m, t1, t2, [], [], hn, _, 0, rfl, id, by simp, ok1, ok2, .nil, m1, m2, m3, m4, ⟨_, G6.get (i := 3) rfl, rfl, rfl⟩, by rw [List.append_nil]; exact G6⟩
    rintro k ih s' ⟨hX, gX, dX, tX, m', u1, u2, hv, rl, hn', oit, i, rfl, hgn, hik, oku1, oku2, hH, n1, n2, n3, n4, hit, GX⟩
    refine for_turn ?_
    have hmlX : hX.get? ml = some (listO mv mn) := (GX.nw _ (List.mem_append_right _ (List.mem_cons_of_mem _ (List.mem_cons_of_mem _ (List.mem_append_left _ hml))))).1
    have hseq : SeqAt hX ml mv := ⟨_, _, hmlX, rfl⟩
    cases k with
    | zero =>
      refine nextEnd (s := ⟨hX, _, _, _, _⟩) R.h hit hseq (by rw [List.getElem?_eq_none]; omega) fun h6 hx6 => ?_
      have GY := GX.perm (news' := ([(182, tabO u1), (189, tabO u2), (he, listO hv hn')] ++ (base ++ rl)) ++ [(it, oit)]) (by
        refine (List.perm_append_singleton _ _).trans ?_
        exact (List.perm_middle (l₁ := [(182, tabO u1), (189, tabO u2), (he, listO hv hn')])).symm)
      have G6 := Lg.loseLast GY hx6
      refine wpAny_execs_nil ?_
      refine ⟨rfl, rfl, hgn, m', u1, u2, hv, rl, hn', oku1, oku2, ?_, n1, n2, n4, G6⟩
      rwa [List.take_of_length_le (by omega)] at hH
    | succ k =>
      have hi : i < masks.length := by omega
      obtain ⟨ty, hty⟩ := hmvv i masks[i] (List.getElem?_eq_getElem hi)
      have hk16 : masks[i] < 16 := hlt _ (List.getElem_mem hi)
      have hHl := hH.len.1
      rw [List.length_map, List.length_take] at hHl
      refine nextItem (s := ⟨hX, _, _, _, _⟩) hit hseq hty fun h6 hit6 hs6 => ?_
      obtain ⟨o6, ho6, hc6, hd6⟩ := id hit6
      have G6 := GX.writeR (i := 1) rfl hs6 ho6
      replace G6 : Lg h₀ L m' h6 ([(182, tabO u1), (189, tabO u2)] ++ ((he, listO hv hn') :: (it, o6) :: (base ++ rl))) := G6
      dsimp only
      refine wpAny_assign_Name ?_
      refine storeN (s := ⟨h6, _, _, _, _⟩) G6 fun h7 m7 e7 k7 G7 => ?_
      dsimp only
      refine turn (s := ⟨h7, _, _, _, _⟩) (tm := ty) hk16 hf R W oku1 oku2 G7 e7 (lk k7 n2) (lk k7 n3) (lk k7 n4) (by omega) fun s8 m8 v1 v2 ra us kk nn okv1 okv2 k8 hus G8 os8 gn8 => ?_
      obtain ⟨hZ, gZ, dZ, tZ, oZ⟩ := s8
      dsimp only at os8 gn8 G8
      subst os8
      refine ih k _ (Nat.lt_succ_self _) ⟨hZ, gZ, dZ, tZ, m8, v1, v2, _, _, nn, o6, i + 1, rfl, fun g => gn8 (hgn g), by omega, okv1, okv2, ?_, (k8 _ (by decide) (by decide) (by decide) (by decide) (by decide)).trans (lk k7 n1), (k8 _ (by decide) (by decide) (by decide) (by decide) (by decide)).trans (lk k7 n2), (k8 _ (by decide) (by decide) (by decide) (by decide) (by decide)).trans (lk k7 n3), (k8 _ (by decide) (by decide) (by decide) (by decide) (by decide)).trans (lk k7 n4),
        ⟨o6, G8.get (i := 3) rfl, hc6, hd6⟩, by rw [← List.append_assoc]; exact G8⟩
      rw [List.take_succ_eq_append_getElem hi, List.map_append]
      exact hH.snoc hus
  · obtain ⟨rfl, e1, hgn, m', u1, u2, hv, rl, hn', oku1, oku2, hH, n1, n2, n4, GX⟩ := hr
    exact h s' m' u1 u2 hv rl hn' oku1 oku2 hH n1 n2 n4 GX e1 hgn
end
end Mine
end
section
open PySem PySem.W PyProof.Rows PySem.Calls PySem.Spec Builtin
set_option Elab.async false
set_option maxRecDepth 100000
set_option maxHeartbeats 4000000
set_option pp.maxSteps 3000
namespace Mine
theorem fillT7 (w : World) (h₀ : Heap) : (hd.heap_1 w.params).In h₀ → PySem.Challenge.rw_zd0011_01.Holds → True := by k_fill; intros; trivial
noncomputable def sg (c : Nat) : Nat → Int
  | 0 => 1
  | k + 1 => if c.testBit k then - sg c k else sg c k
noncomputable def un (ms : List Nat) (c : Nat) : Nat → Nat
  | 0 => 0
  | k + 1 => if c.testBit k then un ms c k ||| ms.getD k 0 else un ms c k
theorem or16 : ∀ (a : Nat), a < 16 → ∀ (b : Nat), b < 16 → Builtin.bitOr (a : Int) (b : Int) = ((a ||| b : Nat) : Int) ∧ a ||| b < 16 := by decide +kernel
theorem getD16 {ms : List Nat} (hlt : ∀ k ∈ ms, k < 16) (i : Nat) : ms.getD i 0 < 16 := by
  rw [List.getD_eq_getElem?_getD]
  cases e : ms[i]? with
  | none => decide
  | some k => exact hlt k (List.mem_of_getElem? e)
theorem un16 {ms : List Nat} (hlt : ∀ k ∈ ms, k < 16) (c : Nat) : ∀ k, un ms c k < 16
  | 0 => Nat.zero_lt_succ _
  | k + 1 => by
    unfold un
    split
    · exact (or16 _ (un16 hlt c k) _ (getD16 hlt k)).2
    · exact un16 hlt c k
noncomputable abbrev rItn (n i : Nat) : Obj := { cls := .type "range_iterator", data := .fields #[rawInt (i : Int), rawInt ((n : Int) - (i : Int)), rawInt 1] }
theorem rItn_next (n i : Nat) : ({ cls := .type "range_iterator", data := .fields #[rawInt ((i : Int) + 1), rawInt ((n : Int) - (i : Int) - 1), rawInt 1] } : Obj) = rItn n (i + 1) := by
  unfold rItn
  rw [show ((i : Int) + 1) = ((i + 1 : Nat) : Int) by omega, show ((n : Int) - (i : Int) - 1) = ((n : Int) - ((i + 1 : Nat) : Int)) by omega]
section
variable {w : World} {mg mb : Str → Option Value} {A : Around} {s : Shared} {h₀ h : Heap} {L K fa : Addr} {cd : Value} {m : Str → Option Value} {l la r rest news : List (Addr × Obj)} {E : Value → Shared → Prop} {Q : Flow → Shared → Prop}
theorem inner {c : Nat} {ms : List Nat} {mv : List Value} {ml : Addr} {mn : Nat} {tc : Tok} (hms : ms.length = 4) (hlt : ∀ k ∈ ms, k < 16) (hmv : NatsAre mv ms) (R : Rm A 30) (W : Wd w mg mb h₀)
    (G : Lg h₀ L m s.heap news) (hml : (ml, listO mv mn) ∈ news) (m1 : m "choice" = some (.int (c : Nat) tc)) (m2 : m "masks" = some (.ref ml))
    (h : ∀ s' m' t1 t2, (∀ y, y ≠ ("sign" : Str) → y ≠ ("union" : Str) → y ≠ ("k" : Str) → m' y = m y) → m' "sign" = some (.int (sg c 4) t1) → m' "union" = some (.int (un ms c 4 : Nat) t2) →
      Lg h₀ L m' s'.heap news → s'.os = s.os → (AllBare s.gens → AllBare s'.gens) → wpAny (model PP w) A (execs (lawFor2.drop 3) (lawEnv L fa cd)) Q E s') :
    wpAny (model PP w) A (execs lawFor2 (lawEnv L fa cd)) Q E s := by
  obtain ⟨hmvl, hmvv⟩ := hmv
  obtain ⟨hh, gg, dd, tk0, oo⟩ := s
  dsimp only at G h
  have e0 : rItn 4 0 = { cls := .type "range_iterator", data := .fields #[rawInt 0, rawInt (Builtin.Range.rangeSize 0 4 1), rawInt 1] } := by
    unfold rItn
    rw [show Builtin.Range.rangeSize 0 4 1 = 4 by decide +kernel]
    rfl
  unfold lawFor2 at h ⊢
  refine wpAny_execs_cons ?_
  refine wpAny_Assign_Name (wpAny_Constant_int ?_)
  refine storeN (s := ⟨hh, _, _, _, _⟩) G fun h1 n1 e1 k1 G1 => ?_
  dsimp only
  refine wpAny_execs_cons ?_
  refine wpAny_Assign_Name (wpAny_Constant_int ?_)
  refine storeN (s := ⟨h1, _, _, _, _⟩) G1 fun h2 n2 e2 k2 G2 => ?_
  dsimp only
  refine wpAny_execs_cons ?_
  refine wpAny_For ?_
  refine Call_ ?_
  refine nameX_B (s := ⟨h2, _, _, _, _⟩) G2.fr W.X W.T (by k_is) (by boot_by_name) (by decide) ?_
  refine PyProof.Rows.callWith_type1 (spliced_more (wpAny_Constant_int (spliced_none ?_)))
  refine call_range_1 ?_
  dsimp only
  have G4 := G2.alloc { cls := .type "range", data := .fields #[.int 0 (tk0 + 1 + 1 + 1 + 1 + 1), .int 4 (tk0 + 1 + 1 + 1 + 1), .int 1 (tk0 + 1 + 1 + 1 + 1 + 1 + 1)] }
  refine wpAny_pyIter_range (s := ⟨_, _, _, _, _⟩) (G4.get (i := 0) rfl) (by decide) ?_
  dsimp only
  rw [← e0]
  have G5 := (G4.alloc (rItn 4 0)).drop (.cons_cons _ (.cons _ (.refl _)))
  generalize (h2.push _).objs.size = it at G5 ⊢
  refine codeAny_mono (R := fun r s' => r = .ok .next ∧ ∃ hX tX m' t1 t2, s' = ⟨hX, gg, dd, tX, oo⟩ ∧ (∀ y, y ≠ ("sign" : Str) → y ≠ ("union" : Str) → y ≠ ("k" : Str) → m' y = m y) ∧ m' "sign" = some (.int (sg c 4) t1) ∧ m' "union" = some (.int (un ms c 4 : Nat) t2) ∧ Lg h₀ L m' hX news) ?_ (fun r s' hr => ?_)
  · refine loop_inv (I := fun k s' => ∃ hX tX m' t1 t2 i, s' = ⟨hX, gg, dd, tX, oo⟩ ∧ i + k = 4 ∧ (∀ y, y ≠ ("sign" : Str) → y ≠ ("union" : Str) → y ≠ ("k" : Str) → m' y = m y) ∧ m' "sign" = some (.int (sg c i) t1) ∧ m' "union" = some (.int (un ms c i : Nat) t2) ∧ Lg h₀ L m' hX ([] ++ ((it, rItn 4 i) :: news))) ?_ 4 _
      ⟨_, _, n2, _, _, 0, rfl, rfl, fun y a1 a2 _ => (k2 y a2).trans (k1 y a1), lk k2 e1, e2, G5⟩
    rintro k ih s' ⟨hX, tX, m', t1, t2, i, rfl, hik, hkp, hm1, hm2, GX⟩
    refine for_turn ?_
    cases k with
    | zero =>
      refine wpAny_pyNext_range_end R.h (GX.getR (i := 0) rfl) (by omega) fun h6 hx6 => ?_
      have G6 := Lg.loseLast (GX.perm (news' := news ++ [(it, rItn 4 i)]) (List.perm_append_singleton _ _)) hx6
      obtain rfl : i = 4 := by omega
      refine wpAny_execs_nil ?_
      exact ⟨rfl, h6, _, m', t1, t2, rfl, hkp, hm1, hm2, G6⟩
    | succ k =>
      refine wpAny_pyNext_range_item (GX.getR (i := 0) rfl) (by omega) fun h6 hit6 hs6 => ?_
      have G6 := GX.writeR (i := 0) rfl hs6 hit6
      have e6 := rItn_next 4 i
      replace G6 : Lg h₀ L m' h6 ((it, { cls := .type "range_iterator", data := .fields #[rawInt ((i : Int) + 1), rawInt (((4 : Nat) : Int) - (i : Int) - 1), rawInt 1] }) :: news) := G6
      rw [e6] at G6
      dsimp only
      refine wpAny_assign_Name ?_
      refine storeN (s := ⟨h6, _, _, _, _⟩) G6 fun h7 m7 e7 k7 G7 => ?_
      dsimp only
      have mc7 : m7 "choice" = some (.int (c : Nat) tc) := lk k7 ((hkp _ (by decide) (by decide) (by decide)).trans m1)
      have mm7 : m7 "masks" = some (.ref ml) := lk k7 ((hkp _ (by decide) (by decide) (by decide)).trans m2)
      refine wpAny_execs_cons ?_
      refine wpAny_If ?_
      refine wpAny_isTrue_Compare1 ?_
      refine wpAny_BinOp (wpAny_BinOp (nameX_L (s := ⟨h7, _, _, _, _⟩) G7.fr mc7 (nameX_L (s := ⟨h7, _, _, _, _⟩) G7.fr e7 ?_)))
      refine rshift_int (by omega) ?_
      refine wpAny_Constant_int (PyProof.Rows.mod_int (by decide) (wpAny_Constant_int (PyProof.Rows.eq_int ?_)))
      refine wpAny_truthy_bool ?_
      rw [bit_test]
      have hi : i < ms.length := by omega
      by_cases hb : c.testBit i = true
      · rw [hb, if_pos rfl]
        refine wpAny_execs_cons ?_
        refine wpAny_Assign_Name (UnaryOp_ (nameX_L (s := ⟨h7, _, _, _, _⟩) G7.fr (lk k7 hm1) (neg_int ?_)))
        refine storeN (s := ⟨h7, _, _, _, _⟩) G7 fun h8 m8 e8 k8 G8 => ?_
        dsimp only
        refine wpAny_execs_cons ?_
        refine wpAny_Assign_Name ?_
        refine wpAny_BinOp (nameX_L (s := ⟨h8, _, _, _, _⟩) G8.fr (lk k8 (lk k7 hm2)) (Subscript_ (nameX_L (s := ⟨h8, _, _, _, _⟩) G8.fr (lk k8 mm7) (nameX_L (s := ⟨h8, _, _, _, _⟩) G8.fr (lk k8 e7) ?_))))
        have hml8 : h8.get? ml = some (listO mv mn) := (G8.nw _ (List.mem_cons_of_mem _ hml)).1
        obtain ⟨ty, hty⟩ := hmvv i ms[i] (List.getElem?_eq_getElem hi)
        refine subscriptTail_builtin (s := ⟨h8, _, _, _, _⟩) (T := "list") ⟨_, hml8, rfl⟩ list_getitem_lookup (wpAny_getItem_list (s := ⟨h8, _, _, _, _⟩) (items := mv.toArray) ⟨_, hml8, rfl, _, rfl⟩ (by omega) (by omega) (x := .int (ms[i] : Nat) ty) (by
          simpa using hty) ?_)
        refine or_int ?_
        have h16 := (or16 _ (un16 hlt c i) _ (hlt _ (List.getElem_mem hi))).1
        rw [h16]
        refine storeN (s := ⟨h8, _, _, _, _⟩) G8 fun h9 m9 e9 k9 G9 => ?_
        dsimp only
        refine wpAny_execs_nil ?_
        dsimp only
        refine wpAny_execs_nil ?_
        have hg : ms.getD i 0 = ms[i] := by rw [List.getD_eq_getElem?_getD, List.getElem?_eq_getElem hi]; rfl
        have q1 : sg c (i + 1) = - sg c i := by conv => lhs; unfold sg; rw [hb, if_pos rfl]
        have q2 : un ms c (i + 1) = un ms c i ||| ms[i] := by
          rw [← hg]
          conv => lhs; unfold un; rw [hb, if_pos rfl]
        rw [← q1] at e8
        rw [← q2] at e9
        exact ih k _ (Nat.lt_succ_self _) ⟨h9, _, m9, _, _, i + 1, rfl, by omega, fun y a1 a2 a3 => (k9 y a2).trans ((k8 y a1).trans ((k7 y a3).trans (hkp y a1 a2 a3))), lk k9 e8, e9, G9⟩
      · have hb' : c.testBit i = false := by simpa using hb
        rw [hb', if_neg (by decide)]
        refine wpAny_execs_nil ?_
        dsimp only
        refine wpAny_execs_nil ?_
        refine ih k _ (Nat.lt_succ_self _) ⟨h7, _, m7, t1, t2, i + 1, rfl, by omega, fun y a1 a2 a3 => (k7 y a3).trans (hkp y a1 a2 a3), ?_, ?_, G7⟩
        · rw [lk k7 hm1]
          rw [show sg c (i + 1) = sg c i by conv => lhs; unfold sg; rw [hb', if_neg (by decide)]]
        · rw [lk k7 hm2]
          rw [show un ms c (i + 1) = un ms c i by conv => lhs; unfold un; rw [hb', if_neg (by decide)]]
  · obtain ⟨rfl, hX, tX, m', t1, t2, rfl, hkp, hm1, hm2, GX⟩ := hr
    exact h ⟨hX, gg, dd, tX, oo⟩ m' t1 t2 hkp hm1 hm2 GX rfl id
end
end Mine
end
section
open PySem PySem.W PyProof.Rows PySem.Calls PySem.Spec Builtin
set_option Elab.async false
set_option maxRecDepth 100000
set_option maxHeartbeats 4000000
set_option pp.maxSteps 3000
namespace Mine
theorem fillT8 (w : World) (h₀ : Heap) : (hd.heap_1 w.params).In h₀ → PySem.Challenge.rw_zd0011_01.Holds → True := by k_fill; intros; trivial
theorem told_eq : ∀ u, u < 16 → ∀ first, first < 8 → (prettyS (u * 2 ^ first) == prettyS (15 * 2 ^ first)) = decide (u = 15) := by decide +kernel
theorem wsum : ∀ (l : List Str), (∀ y ∈ l, Word y) → (l.map (·.length)).sum ≤ 20 * l.length
  | [], _ => Nat.le_refl _
  | y :: r, h => by
    have a := (h y List.mem_cons_self).len
    have b := wsum r fun x hx => h x (List.mem_cons_of_mem _ hx)
    simp only [List.map_cons, List.sum_cons, List.length_cons]
    omega
section
variable {w : World} {mg mb : Str → Option Value} {A : Around} {s : Shared} {h₀ h : Heap} {L K fa : Addr} {cd : Value} {m : Str → Option Value} {l la r rest news : List (Addr × Obj)} {E : Value → Shared → Prop} {Q : Flow → Shared → Prop}
theorem telling {u first : Nat} {sgn cov : Int} {tu tf ts tc tw : Tok} (hu : u < 16) (hf : first < 8) (R : Rm A 30) (W : Wd w mg mb h₀) (G : Lg h₀ L m s.heap news)
    (m1 : m "union" = some (.int (u : Nat) tu)) (m2 : m "first" = some (.int (first : Nat) tf)) (m3 : m "whole" = some (.str (prettyS (15 * 2 ^ first)) tw)) (m4 : m "sign" = some (.int sgn ts)) (m5 : m "covers" = some (.int cov tc))
    (h : ∀ s' m' t', (∀ y, y ≠ ("told" : Str) → y ≠ ("covers" : Str) → m' y = m y) → m' "covers" = some (.int (cov + if u = 15 then sgn else 0) t') →
      Lg h₀ L m' s'.heap news → s'.os = s.os → (AllBare s.gens → AllBare s'.gens) → wpAny (model PP w) A (execs (lawFor2.drop 6) (lawEnv L fa cd)) Q E s') :
    wpAny (model PP w) A (execs (lawFor2.drop 3) (lawEnv L fa cd)) Q E s := by
  obtain ⟨y0, ys, hw1, hy0, hys, hyl⟩ := words_split u hf
  unfold lawFor2 at h ⊢
  refine wpAny_execs_cons ?_
  refine wpAny_Assign_Name ?_
  refine Call_ (nameX_K G.fr W.X W.T (by k_is) ?_)
  refine callWith_K (W.X.keeps G.fr.keep) (by k_is) (spliced_more ?_)
  refine wpAny_BinOp (nameX_L G.fr m1 (nameX_L G.fr m2 ?_))
  refine lshift_int_small (by omega) (by omega) (by omega) ?_
  refine spliced_none ?_
  dsimp only
  refine ⟨W.X.keeps G.fr.keep, ?_⟩
  rw [show (u : Int) * 2 ^ (first : Int).toNat = ((u * 2 ^ first : Nat) : Int) by simp]
  refine c_pretty (s := ⟨s.heap, _, _, _, _⟩) (rest := news) (shl_lt hu hf) (R.le (by decide)) W G fun s1 t1 B1 => ?_
  refine storeN B1.lg fun h2 n2 e2 k2 G2 => ?_
  replace G2 : Lg h₀ L n2 h2 news := G2
  refine wpAny_execs_cons ?_
  refine wpAny_If ?_
  refine wpAny_isTrue_Compare1 ?_
  refine nameX_L (s := ⟨h2, _, _, _, _⟩) G2.fr e2 ?_
  refine MethodCall_ (Calls.Constant_str ?_)
  refine GM.join ?_
  refine callWith_method1 (spliced_more ?_)
  refine Call_ (nameX_K (s := ⟨h2, _, _, _, _⟩) G2.fr W.X W.T (by k_is) ?_)
  refine callWith_K (s := ⟨h2, _, _, _, _⟩) (W.X.keeps G2.fr.keep) (by k_is) (spliced_more (nameX_L (s := ⟨h2, _, _, _, _⟩) G2.fr (lk k2 m1) (spliced_more (nameX_L (s := ⟨h2, _, _, _, _⟩) G2.fr (lk k2 m2) (spliced_none ?_)))))
  refine ⟨W.X.keeps G2.fr.keep, ?_⟩
  refine c_words (s := ⟨h2, _, _, _, _⟩) (rest := news) hu hf (R.le (by decide)) W G2 fun s3 wa wv wn hwv B3 => ?_
  have G3 : Lg h₀ L n2 s3.heap ((wa, listO wv wn) :: news) := B3.lg
  refine spliced_none ?_
  have hwt : ((wordsS u first).map (·.length)).sum + (wordsS u first).length ≤ 1048576 := by
    have := wsum (wordsS u first) (by
      rw [hw1]
      intro y hy
      rcases List.mem_cons.mp hy with rfl | hy
      · exact hy0
      · exact hys y hy)
    have hl : (wordsS u first).length ≤ 4 := by rw [hw1, List.length_cons]; omega
    omega
  refine join_listW (s := ⟨s3.heap, _, _, _, _⟩) ⟨_, G3.get (i := 0) rfl, rfl, _, rfl⟩ (by simpa using hwv) (by decide +kernel) hwt fun t4 k4 => ?_
  refine ne_str ?_
  refine wpAny_truthy_bool ?_
  rw [← pretty_join hu hf]
  rw [show (prettyS (u * 2 ^ first) != prettyS (u * 2 ^ first)) = false from by simp, if_neg (by decide)]
  refine wpAny_execs_nil ?_
  dsimp only
  have G4 : Lg h₀ L n2 s3.heap news := G3.drop (.cons _ (.refl _))
  refine wpAny_execs_cons ?_
  refine wpAny_If ?_
  refine wpAny_isTrue_Compare1 ?_
  refine nameX_L (s := ⟨s3.heap, _, _, _, _⟩) G4.fr e2 (nameX_L (s := ⟨s3.heap, _, _, _, _⟩) G4.fr (lk k2 m3) ?_)
  refine PyProof.Rows.eq_str ?_
  refine wpAny_truthy_bool ?_
  rw [told_eq u hu first hf]
  by_cases q : u = 15
  · rw [decide_eq_true q, if_pos rfl]
    refine wpAny_execs_cons ?_
    refine wpAny_AugAssign_Name ?_
    refine wpAny_loadName_local rfl rfl G4.fr.ns (lk k2 m5) ?_
    refine nameX_L (s := ⟨s3.heap, _, _, _, _⟩) G4.fr (lk k2 m4) ?_
    refine iadd_int ?_
    refine storeN (s := ⟨s3.heap, _, _, _, _⟩) G4 fun h5 n5 e5 k5 G5 => ?_
    dsimp only
    refine wpAny_execs_nil ?_
    rw [show cov + sgn = cov + (if u = 15 then sgn else 0) by rw [if_pos q]] at e5
    exact h ⟨h5, _, _, _, _⟩ n5 _ (fun y a1 a2 => (k5 y a2).trans (k2 y a1)) e5 G5 (B3.os.trans B1.os) (fun g => B3.gn (B1.gn g))
  · rw [decide_eq_false q, if_neg (by decide)]
    refine wpAny_execs_nil ?_
    rw [show cov = cov + (if u = 15 then sgn else 0) by rw [if_neg q, Int.add_zero]] at m5
    exact h ⟨s3.heap, _, _, _, _⟩ n2 tc (fun y a1 a2 => k2 y a1) (lk k2 m5) G4 (B3.os.trans B1.os) (fun g => B3.gn (B1.gn g))
end
end Mine
end
section
open PySem PySem.W PyProof.Rows PySem.Calls PySem.Spec Builtin
set_option Elab.async false
set_option maxRecDepth 100000
set_option maxHeartbeats 4000000
set_option pp.maxSteps 3000
namespace Mine
theorem fillT9 (w : World) (h₀ : Heap) : (hd.heap_1 w.params).In h₀ → PySem.Challenge.rw_zd0011_01.Holds → True := by k_fill; intros; trivial
noncomputable def inS (pk : List Str) (f : Str) : Bool := pk.any (· == f)
/-- the row that no picked word meets -/
noncomputable def missed (pk row : List Str) : Bool := (row.filter (inS pk)).isEmpty
theorem empty_app (a b : List (List Str)) : (a ++ b).isEmpty = (a.isEmpty && b.isEmpty) := by
  cases a <;> rfl
theorem miss_snoc (pk : List Str) (rows : List (List Str)) (i : Nat) (hi : i < rows.length) : ((rows.take (i + 1)).filter (missed pk)).isEmpty = (((rows.take i).filter (missed pk)).isEmpty && !missed pk rows[i]) := by
  rw [List.take_succ_eq_append_getElem hi, List.filter_append, empty_app]
  congr 1
  cases q : missed pk rows[i] <;> simp [q]
noncomputable def isS (f : Str) : Value → Bool
  | .str a _ => a == f
  | _ => false
theorem any_strs (f : Str) : ∀ {vs : List Value} {ys : List Str}, StrsAre vs ys → vs.any (isS f) = inS ys f
  | _, _, .nil => rfl
  | _, _, .cons y t r => by
    have := any_strs f r
    unfold inS at this ⊢
    simp only [List.any_cons, this]
    rfl
theorem mem_strs : ∀ {vs : List Value} {ys : List Str}, StrsAre vs ys → ∀ v ∈ vs, ∃ y t, v = .str y t
  | _, _, .nil, v, h => by simp at h
  | _, _, .cons y t r, v, h => by
    rcases List.mem_cons.mp h with rfl | h
    · exact ⟨y, t, rfl⟩
    · exact mem_strs r v h
section
variable {w : World} {mg mb : Str → Option Value} {A : Around} {s : Shared} {h₀ h : Heap} {L K fa : Addr} {cd : Value} {m : Str → Option Value} {l la r rest news : List (Addr × Obj)} {E : Value → Shared → Prop} {Q : Flow → Shared → Prop}
theorem in_strs {l : Addr} {vs : List Value} {ys : List Str} {f : Str} {t : Tok} {n : Nat} {Q : Value → Shared → Prop} (hl : s.heap.get? l = some (listO vs n)) (hv : StrsAre vs ys) (h : Q (.bool (inS ys f)) s) : wpAny (model PP w) A (compareOp .In (.str f t) (.ref l)) Q E s := by
  refine PySem.SeqAt.in_listAt (items := vs.toArray) (isS f) ⟨_, hl, rfl, _, rfl⟩ (fun y hy => ?_) ?_
  · obtain ⟨a, u, rfl⟩ := mem_strs hv y (by simpa using hy)
    exact PySem.SeqAt.EqAt.str_str a u f t
  · rw [List.any_toArray, any_strs f hv]
    exact h
theorem eq_empty {l b : Addr} {vs : List Value} {n k : Nat} {Q : Value → Shared → Prop} (hl : s.heap.get? l = some (listO vs n)) (hb : s.heap.get? b = some (listO [] k)) (hu : A.units < cLine) (h : Q (.bool vs.isEmpty) s) : wpAny (model PP w) A (compareOp .Eq (.ref l) (.ref b)) Q E s := by
  cases vs with
  | nil =>
    refine PySem.SeqAt.RcAt.lists (items := ([] : List Value).toArray) (items2 := ([] : List Value).toArray) (e := fun _ => true) ⟨_, hl, rfl, _, rfl⟩ ⟨_, hb, rfl, _, rfl⟩ rfl hu (fun j h1 h2 => absurd h1 (by simp)) _ _ _ _ ?_
    exact h
  | cons v r =>
    exact PySem.SeqAt.RcAt.lists_lengths (items := (v :: r).toArray) (items2 := ([] : List Value).toArray) ⟨_, hl, rfl, _, rfl⟩ ⟨_, hb, rfl, _, rfl⟩ (by simp) hu _ _ _ _ h
theorem picking {c first ci hn : Nat} {sgn mt : Int} {tc tf ts tm : Tok} {he : Addr} {hv : List Value} {rl : List (Addr × Obj)} {rows : List (List Str)} {o2 : Obj} {v0 : Option Value} (hc : c < 16) (hf : first < 8) (hH : HeardAre hv rl rows) (hrl : rows.length ≤ 100) (hrz : ∀ row ∈ rows, row.length ≤ 100) (R : Rm A 30) (W : Wd w mg mb h₀) (G : Lg h₀ L m s.heap news)
    (hci : news[ci]? = some (L + 1 + 1, o2)) (hd2 : o2.data = .cell v0) (hrlm : ∀ o2', ∀ p ∈ rl, p ∈ news.set ci (L + 1 + 1, o2')) (hhe : ∀ o2', (he, listO hv hn) ∈ news.set ci (L + 1 + 1, o2'))
    (m1 : m "choice" = some (.int (c : Nat) tc)) (m2 : m "first" = some (.int (first : Nat) tf)) (m3 : m "heard" = some (.ref he)) (m4 : m "sign" = some (.int sgn ts)) (m5 : m "meets" = some (.int mt tm))
    (h : ∀ s' m' t' o2' v2, o2'.data = .cell v2 → (∀ y, y ≠ ("meets" : Str) → m' y = m y) → m' "meets" = some (.int (mt + if (rows.filter (missed (wordsS c first))).isEmpty then sgn else 0) t') →
      Lg h₀ L m' s'.heap (news.set ci (L + 1 + 1, o2')) → s'.os = s.os → (AllBare s.gens → AllBare s'.gens) → Q .next s') :
    wpAny (model PP w) A (execs (lawFor2.drop 6) (lawEnv L fa cd)) Q E s := by
  unfold lawFor2
  refine wpAny_execs_cons ?_
  refine wpAny_Assign_Name ?_
  refine Call_ (nameX_K G.fr W.X W.T (by k_is) ?_)
  refine callWith_K (W.X.keeps G.fr.keep) (by k_is) (spliced_more (nameX_L G.fr m1 (spliced_more (nameX_L G.fr m2 (spliced_none ?_)))))
  refine ⟨W.X.keeps G.fr.keep, ?_⟩
  refine c_words (rest := news) hc hf (R.le (by decide)) W G fun s1 pa pv pn hpv B1 => ?_
  have hos := B1.os
  have hgn := B1.gn
  have G1 : Lg h₀ L m s1.heap ((pa, listO pv pn) :: news) := B1.lg
  obtain ⟨hh, gg, dd, tk0, oo⟩ := s1
  dsimp only at G1 hos hgn
  have hci1 : ((pa, listO pv pn) :: news)[ci + 1]? = some (L + 1 + 1, o2) := by simpa using hci
  refine storeC (s := ⟨hh, _, _, _, _⟩) G1 (i := ci + 1) hci1 rfl hd2 fun h2 o2' d2 G2 => ?_
  replace G2 : Lg h₀ L m h2 ((pa, listO pv pn) :: news.set ci (L + 1 + 1, o2')) := G2
  have hcm : (L + 1 + 1, o2') ∈ news.set ci (L + 1 + 1, o2') := by
    obtain ⟨hlt, _⟩ := List.getElem?_eq_some_iff.mp hci
    exact List.mem_set hlt _
  have hrl2 := hrlm o2'
  have hhe2 := hhe o2'
  generalize hnw : news.set ci (L + 1 + 1, o2') = nws at G2 hcm hrl2 hhe2
  have hHl := hH.len.1
  refine wpAny_execs_cons ?_
  refine wpAny_If ?_
  refine wpAny_isTrue_Compare1 ?_
  refine LCt.ListComp_T (s := ⟨h2, _, _, _, _⟩) G2.fr (cl := [("picked", L + 1 + 1)]) (by with_unfolding_all rfl) (by decide) (by rfl) (by decide) (by rfl) ?_
  refine nameX_L (s := ⟨h2, _, _, _, _⟩) G2.fr m3 ?_
  refine LCt.CompSrcT.ledger R.h G2.fr G2.nw (List.mem_cons_of_mem _ hhe2) (by rw [List.size_toArray]; exact size_fits' (by omega)) (fun gh => ?_)
  rw [show hv.toArray.size = rows.length by rw [List.size_toArray]; exact hHl]
  refine restT_inv (n := rows.length) (I := fun i us => us.isEmpty = ((rows.take i).filter (missed (wordsS c first))).isEmpty) ?_ ?_ rows.length 0 [] (by omega) rfl
  · rintro k i us hik hI ih
    refine LCt.CompRestT.succ ?_
    rintro v I oI C oC D m₂ h5 tk5 E' hv' hC hx F5 N5 off5 ne5
    dsimp only
    have gC : h5.Ns C m₂ := hC.ns (N5 (C, oC) (by simp)).1
    have hi : i < rows.length := by omega
    obtain ⟨ra, rv, rn, hra, hrm, hrs⟩ := hH.at i rows[i] (List.getElem?_eq_getElem hi)
    have ev : v = .ref ra := by
      have : hv[i]? = some v := by simpa using hv'
      rw [hra] at this
      exact (Option.some.inj this).symm
    subst ev
    have hrmem : (ra, listO rv rn) ∈ (I, oI) :: (C, oC) :: (D, LCg.lst us) :: (pa, listO pv pn) :: nws := by simp [hrl2 _ hrm]
    have hpmem : (pa, listO pv pn) ∈ (I, oI) :: (C, oC) :: (D, LCg.lst us) :: (pa, listO pv pn) :: nws := by simp
    have hcmem : (L + 1 + 1, o2') ∈ (I, oI) :: (C, oC) :: (D, LCg.lst us) :: (pa, listO pv pn) :: nws := by simp [hcm]
    have hrl' := strsAre_len hrs
    have hrow : rows[i].length ≤ 100 := hrz _ (List.getElem_mem hi)
    refine wpAny_isTrue_Compare1 ?_
    refine LCt.ListComp_T (s := ⟨h5, _, _, _, _⟩) F5 (cl := [("picked", L + 1 + 1)]) (by with_unfolding_all rfl) (by decide) (by rfl) (by decide) (by rfl) ?_
    refine wpAny_Name (wpAny_loadName_local rfl (by rfl) gC hx ?_) (by decide)
    refine LCt.CompSrcT.ledger R.h F5 N5 hrmem (by rw [List.size_toArray]; exact size_fits' (by omega)) (fun gh2 => ?_)
    rw [show rv.toArray.size = rows[i].length by rw [List.size_toArray]; exact hrl']
    refine restT_inv (n := rows[i].length) (I := fun j vs => StrsAre vs ((rows[i].take j).filter (inS (wordsS c first)))) ?_ ?_ rows[i].length 0 [] (by omega) .nil
    · rintro k2 j vs hjk hJ ih2
      refine LCt.CompRestT.succ ?_
      rintro v2 I2 oI2 C2 oC2 D2 m₃ h6 tk6 E2 hv2 hC2 hx2 F6 N6 off6 ne6
      dsimp only
      have gC2 : h6.Ns C2 m₃ := hC2.ns (N6 (C2, oC2) (by simp)).1
      have hj : j < rows[i].length := by omega
      obtain ⟨ty, hty⟩ := strsAre_at hrs j rows[i][j] (List.getElem?_eq_getElem hj)
      have ev2 : v2 = .str rows[i][j] ty := by
        have : rv[j]? = some v2 := by simpa using hv2
        rw [hty] at this
        exact (Option.some.inj this).symm
      subst ev2
      have hp6 : h6.get? pa = some (listO pv pn) := (N6 _ (List.mem_cons_of_mem _ (List.mem_cons_of_mem _ (List.mem_cons_of_mem _ hpmem)))).1
      have hc6 : h6.get? (L + 1 + 1) = some o2' := (N6 _ (List.mem_cons_of_mem _ (List.mem_cons_of_mem _ (List.mem_cons_of_mem _ hcmem)))).1
      refine wpAny_isTrue_Compare1 ?_
      refine wpAny_Name (wpAny_loadName_local rfl (by rfl) gC2 hx2 ?_) (by decide)
      refine wpAny_Name (wpAny_loadName_cell (c := L + 1 + 1) (v := .ref pa) rfl (by rfl) (by rfl) ⟨o2', hc6, d2⟩ ?_) (by decide)
      refine in_strs (s := ⟨h6, _, _, _, _⟩) hp6 hpv ?_
      refine wpAny_truthy_bool ?_
      have hstep : (rows[i].take (j + 1)).filter (inS (wordsS c first)) = (rows[i].take j).filter (inS (wordsS c first)) ++ (if inS (wordsS c first) rows[i][j] = true then [rows[i][j]] else []) := by
        rw [List.take_succ_eq_append_getElem hj, List.filter_append]
        by_cases q : inS (wordsS c first) rows[i][j] = true
        · simp [q]
        · simp [q]
      by_cases q : inS (wordsS c first) rows[i][j] = true
      · rw [q, if_pos rfl]
        refine wpAny_Name (wpAny_loadName_local rfl (by rfl) gC2 hx2 ?_) (by decide)
        refine LCg.CompEnd.intro F6 N6 _ (fun p hp => hp) off6 (.inr ⟨_, hrmem, rfl, _, rfl⟩) (ih2 _ ?_)
        rw [hstep, if_pos q]
        exact strsAre_append _ _ hJ
      · have q' : inS (wordsS c first) rows[i][j] = false := by simpa using q
        rw [q', if_neg (by decide)]
        refine LCg.CompEnd.intro F6 N6 _ (fun p hp => hp) off6 (.inr ⟨_, hrmem, rfl, _, rfl⟩) (ih2 _ ?_)
        rw [hstep, if_neg q, List.append_nil]
        exact hJ
    · rintro vs hJ D3 h7 tk7 F7 N7 off7
      dsimp only
      rw [List.take_length] at hJ
      refine List_ (spliced_none ?_)
      refine wpAny_newObj_type ?_
      dsimp only
      have hD3 : (h7.push (listO [] 0)).get? D3 = some (listO vs vs.length) := Heap.get?_push_of_some _ (N7 _ List.mem_cons_self).1
      refine eq_empty (s := ⟨_, _, _, _, _⟩) hD3 (Heap.get?_push_size _ rfl) (by have := R.u; omega) ?_
      refine wpAny_truthy_bool ?_
      have hvs : vs.isEmpty = missed (wordsS c first) rows[i] := by
        unfold missed
        have := strsAre_len hJ
        cases vs with
        | nil =>
          cases q : List.filter (inS (wordsS c first)) rows[i] with
          | nil => rfl
          | cons _ _ => rw [q] at this; simp at this
        | cons _ _ =>
          cases q : List.filter (inS (wordsS c first)) rows[i] with
          | nil => rw [q] at this; simp at this
          | cons _ _ => rfl
      rw [hvs]
      have F8 : Fr h₀ L (h7.push (listO [] 0)) m := F7.keeps fun b o e => Heap.get?_push_of_some _ e
      have N8 : News h₀ L (h7.push (listO [] 0)) ((D3, LCg.lst vs) :: (I, oI) :: (C, oC) :: (D, LCg.lst us) :: (pa, listO pv pn) :: nws) := N7.keeps fun b o e => Heap.get?_push_of_some _ e
      have hst := miss_snoc (wordsS c first) rows i hi
      by_cases q : missed (wordsS c first) rows[i] = true
      · rw [q, if_pos rfl]
        refine wpAny_Name (wpAny_loadName_local rfl (by rfl) (hC.ns (N8 (C, oC) (by simp)).1) hx ?_) (by decide)
        refine LCg.CompEnd.intro F8 N8 _ (fun p hp => List.mem_cons_of_mem _ hp) off5 (.inr ⟨_, List.mem_cons_of_mem _ hhe2, rfl, _, rfl⟩) (ih _ ?_)
        rw [hst, q]
        simp
      · have q' : missed (wordsS c first) rows[i] = false := by simpa using q
        rw [q', if_neg (by decide)]
        refine LCg.CompEnd.intro F8 N8 _ (fun p hp => List.mem_cons_of_mem _ hp) off5 (.inr ⟨_, List.mem_cons_of_mem _ hhe2, rfl, _, rfl⟩) (ih _ ?_)
        rw [hst, q', ← hI]
        simp
  · rintro us hI D3 h7 tk7 F7 N7 off7
    dsimp only
    rw [List.take_length] at hI
    refine List_ (spliced_none ?_)
    refine wpAny_newObj_type ?_
    dsimp only
    have G7 := G2.fin F7 N7 off7
    have G8 := G7.alloc (listO [] 0)
    refine eq_empty (s := ⟨_, _, _, _, _⟩) (G8.get (i := 1) rfl) (G8.get (i := 0) rfl) (by have := R.u; omega) ?_
    refine wpAny_truthy_bool ?_
    rw [hI]
    have G9 : Lg h₀ L m (h7.push (listO [] 0)) nws := G8.drop (.cons _ (.cons _ (.cons _ (.refl _))))
    rw [← hnw] at G9
    by_cases q : (rows.filter (missed (wordsS c first))).isEmpty = true
    · rw [if_pos q]
      refine wpAny_execs_cons ?_
      refine wpAny_AugAssign_Name ?_
      refine wpAny_loadName_local rfl rfl G9.fr.ns m5 ?_
      refine nameX_L (s := ⟨_, _, _, _, _⟩) G9.fr m4 ?_
      refine iadd_int ?_
      refine storeN (s := ⟨_, _, _, _, _⟩) G9 fun h10 n10 e10 k10 G10 => ?_
      dsimp only
      refine wpAny_execs_nil ?_
      dsimp only
      refine wpAny_execs_nil ?_
      rw [show mt + sgn = mt + (if (rows.filter (missed (wordsS c first))).isEmpty then sgn else 0) by rw [if_pos q]] at e10
      exact h ⟨h10, _, _, _, _⟩ n10 _ o2' _ d2 k10 e10 G10 hos hgn
    · rw [if_neg q]
      refine wpAny_execs_nil ?_
      dsimp only
      refine wpAny_execs_nil ?_
      rw [show mt = mt + (if (rows.filter (missed (wordsS c first))).isEmpty then sgn else 0) by rw [if_neg q, Int.add_zero]] at m5
      exact h ⟨_, _, _, _, _⟩ m tm o2' _ d2 (fun y _ => rfl) m5 G9 hos hgn
end
end Mine
end
section
open PySem PySem.W PyProof.Rows PySem.Calls PySem.Spec Builtin
set_option Elab.async false
set_option maxRecDepth 100000
set_option maxHeartbeats 4000000
set_option pp.maxSteps 3000
namespace Mine
theorem fillT10 (w : World) (h₀ : Heap) : (hd.heap_1 w.params).In h₀ → PySem.Challenge.rw_zd0011_01.Holds → True := by k_fill; intros; trivial
noncomputable def covN (ms : List Nat) : Nat → Int
  | 0 => 0
  | c + 1 => covN ms c + if un ms c 4 = 15 then sg c 4 else 0
noncomputable def meetN (rows : List (List Str)) (first : Nat) : Nat → Int
  | 0 => 0
  | c + 1 => meetN rows first c + if (rows.filter (missed (wordsS c first))).isEmpty then sg c 4 else 0
section
variable {w : World} {mg mb : Str → Option Value} {A : Around} {s : Shared} {h₀ h : Heap} {L K fa : Addr} {cd : Value} {m : Str → Option Value} {l la r rest news : List (Addr × Obj)} {E : Value → Shared → Prop} {Q : Flow → Shared → Prop}
theorem for2 {ms : List Nat} {first mn hn : Nat} {tf : Tok} {ml he : Addr} {mv hv : List Value} {rl base : List (Addr × Obj)} {rows : List (List Str)} {o2 : Obj} {v0 : Option Value} (hms : ms.length = 4) (hlt : ∀ k ∈ ms, k < 16) (hmv : NatsAre mv ms) (hf : first < 8) (hH : HeardAre hv rl rows) (hrl : rows.length ≤ 100) (hrz : ∀ row ∈ rows, row.length ≤ 100) (R : Rm A 30) (W : Wd w mg mb h₀)
    (G : Lg h₀ L m s.heap ((L + 1 + 1, o2) :: base)) (hd2 : o2.data = .cell v0) (hml : (ml, listO mv mn) ∈ base) (hhe : (he, listO hv hn) ∈ base) (hrlm : ∀ p ∈ rl, p ∈ base)
    (m1 : m "masks" = some (.ref ml)) (m2 : m "first" = some (.int (first : Nat) tf)) (m3 : m "heard" = some (.ref he))
    (h : ∀ s' m' o2', Lg h₀ L m' s'.heap ((L + 1 + 1, o2') :: base) → s'.os = s.os → (AllBare s.gens → AllBare s'.gens) → Q (.ret (.bool (covN ms 16 == meetN rows first 16))) s') :
    wpAny (model PP w) A (execs (lawBody.drop 7) (lawEnv L fa cd)) Q E s := by
  have e0 : rItn 16 0 = { cls := .type "range_iterator", data := .fields #[rawInt 0, rawInt (Builtin.Range.rangeSize 0 16 1), rawInt 1] } := by
    unfold rItn
    rw [show Builtin.Range.rangeSize 0 16 1 = 16 by decide +kernel]
    rfl
  refine wpAny_execs_cons ?_
  refine wpAny_Assign_Name ?_
  refine Call_ (nameX_K G.fr W.X W.T (by k_is) ?_)
  refine callWith_K (W.X.keeps G.fr.keep) (by k_is) (spliced_more ?_)
  refine wpAny_BinOp (wpAny_Constant_int (nameX_L (s := ⟨s.heap, _, _, _, _⟩) G.fr m2 ?_))
  refine lshift_int_small (by omega) (by omega) (by omega) ?_
  refine spliced_none ?_
  dsimp only
  refine ⟨W.X.keeps G.fr.keep, ?_⟩
  rw [show (15 : Int) * 2 ^ (first : Int).toNat = ((15 * 2 ^ first : Nat) : Int) by simp]
  refine c_pretty (s := ⟨s.heap, _, _, _, _⟩) (rest := (L + 1 + 1, o2) :: base) (shl_lt (mask := 15) (by decide) hf) (R.le (by decide)) W G fun s1 t1 B1 => ?_
  have hos := B1.os
  have hgn := B1.gn
  have G1 : Lg h₀ L m s1.heap ((L + 1 + 1, o2) :: base) := B1.lg
  obtain ⟨hh, gg, dd, tk0, oo⟩ := s1
  dsimp only at G1 hos hgn
  refine storeN (s := ⟨hh, _, _, _, _⟩) G1 fun h2 n2 e2 k2 G2 => ?_
  dsimp only
  refine wpAny_execs_cons ?_
  refine wpAny_Assign_Name (wpAny_Constant_int ?_)
  refine storeN (s := ⟨h2, _, _, _, _⟩) G2 fun h3 n3 e3 k3 G3 => ?_
  dsimp only
  refine wpAny_execs_cons ?_
  refine wpAny_Assign_Name (wpAny_Constant_int ?_)
  refine storeN (s := ⟨h3, _, _, _, _⟩) G3 fun h4 n4 e4 k4 G4 => ?_
  dsimp only
  refine wpAny_execs_cons ?_
  refine wpAny_For ?_
  refine Call_ ?_
  refine nameX_B (s := ⟨h4, _, _, _, _⟩) G4.fr W.X W.T (by k_is) (by boot_by_name) (by decide) ?_
  refine PyProof.Rows.callWith_type1 (spliced_more (wpAny_Constant_int (spliced_none ?_)))
  refine call_range_1 ?_
  dsimp only
  obtain ⟨tz, etz⟩ : ∃ tz, tz = tk0 + 1 + 1 + 1 + 1 + 1 := ⟨_, rfl⟩
  rw [← etz]
  have G5 := G4.alloc { cls := .type "range", data := .fields #[.int 0 (tz + 1), .int 16 tz, .int 1 (tz + 1 + 1)] }
  refine wpAny_pyIter_range (s := ⟨_, _, _, _, _⟩) (G5.get (i := 0) rfl) (by decide) ?_
  dsimp only
  rw [← e0]
  have G6 := (G5.alloc (rItn 16 0)).drop (.cons_cons _ (.cons _ (.refl _)))
  generalize (h4.push _).objs.size = it at G6 ⊢
  refine codeAny_mono (R := fun r s' => r = .ok .next ∧ s'.os = oo ∧ (AllBare gg → AllBare s'.gens) ∧ ∃ m' t1 t2 o2', m' "covers" = some (.int (covN ms 16) t1) ∧ m' "meets" = some (.int (meetN rows first 16) t2) ∧ Lg h₀ L m' s'.heap ((L + 1 + 1, o2') :: base)) ?_ (fun r s' hr => ?_)
  · refine loop_inv (I := fun k s' => ∃ hX gX dX tX m' tc tm tw o2' v2 i, s' = ⟨hX, gX, dX, tX, oo⟩ ∧ (AllBare gg → AllBare gX) ∧ i + k = 16 ∧ o2'.data = .cell v2 ∧ m' "masks" = some (.ref ml) ∧ m' "first" = some (.int (first : Nat) tf) ∧ m' "heard" = some (.ref he) ∧ m' "whole" = some (.str (prettyS (15 * 2 ^ first)) tw) ∧
        m' "covers" = some (.int (covN ms i) tc) ∧ m' "meets" = some (.int (meetN rows first i) tm) ∧ Lg h₀ L m' hX ((it, rItn 16 i) :: (L + 1 + 1, o2') :: base)) ?_ 16 _
      ⟨_, _, _, _, n4, _, _, _, o2, v0, 0, rfl, id, rfl, hd2, lk k4 (lk k3 (lk k2 m1)), lk k4 (lk k3 (lk k2 m2)), lk k4 (lk k3 (lk k2 m3)), lk k4 (lk k3 e2), lk k4 e3, e4, G6⟩
    rintro k ih s' ⟨hX, gX, dX, tX, m', tc, tm, tw, o2', v2, i, rfl, hgX, hik, hd2', q1, q2, q3, q4, q5, q6, GX⟩
    refine for_turn ?_
    cases k with
    | zero =>
      refine wpAny_pyNext_range_end R.h (GX.get (i := 0) rfl) (by omega) fun h6 hx6 => ?_
      have G7 := Lg.loseLast (GX.perm (news' := ((L + 1 + 1, o2') :: base) ++ [(it, rItn 16 i)]) (List.perm_append_singleton _ _)) hx6
      obtain rfl : i = 16 := by omega
      refine wpAny_execs_nil ?_
      exact ⟨rfl, rfl, hgX, m', tc, tm, o2', q5, q6, G7⟩
    | succ k =>
      refine wpAny_pyNext_range_item (GX.get (i := 0) rfl) (by omega) fun h6 hit6 hs6 => ?_
      have G7 := GX.write (i := 0) rfl hs6 hit6
      have e6 := rItn_next 16 i
      replace G7 : Lg h₀ L m' h6 ((it, { cls := .type "range_iterator", data := .fields #[rawInt ((i : Int) + 1), rawInt (((16 : Nat) : Int) - (i : Int) - 1), rawInt 1] }) :: (L + 1 + 1, o2') :: base) := G7
      rw [e6] at G7
      dsimp only
      refine wpAny_assign_Name ?_
      refine storeN (s := ⟨h6, _, _, _, _⟩) G7 fun h7 m7 e7 k7 G8 => ?_
      dsimp only
      have hi16 : i < 16 := by omega
      refine inner (s := ⟨h7, _, _, _, _⟩) (c := i) (mn := mn) hms hlt hmv R W G8 (List.mem_cons_of_mem _ (List.mem_cons_of_mem _ hml)) e7 (lk k7 q1) fun s8 m8 ts8 tu8 k8 es8 eu8 G9 os8 gn8 => ?_
      have q8 : ∀ y, y ≠ ("sign" : Str) → y ≠ ("union" : Str) → y ≠ ("k" : Str) → y ≠ ("choice" : Str) → m8 y = m' y := fun y a1 a2 a3 a4 => (k8 y a1 a2 a3).trans (k7 y a4)
      refine telling (cov := covN ms i) (un16 hlt i 4) hf R W G9 eu8 ((q8 _ (by decide) (by decide) (by decide) (by decide)).trans q2) ((q8 _ (by decide) (by decide) (by decide) (by decide)).trans q4) es8 ((q8 _ (by decide) (by decide) (by decide) (by decide)).trans q5) fun s9 m9 t9 k9 ec9 G10 os9 gn9 => ?_
      have q9 : ∀ y, y ≠ ("sign" : Str) → y ≠ ("union" : Str) → y ≠ ("k" : Str) → y ≠ ("choice" : Str) → y ≠ ("told" : Str) → y ≠ ("covers" : Str) → m9 y = m' y := fun y a1 a2 a3 a4 a5 a6 => (k9 y a5 a6).trans (q8 y a1 a2 a3 a4)
      have ch9 : m9 "choice" = some (.int (i : Nat) tX) := (k9 _ (by decide) (by decide)).trans ((k8 _ (by decide) (by decide) (by decide)).trans e7)
      refine picking (c := i) (ci := 1) (mt := meetN rows first i) (hn := hn) hi16 hf hH hrl hrz R W G10 rfl hd2' (fun o p hp => List.mem_cons_of_mem _ (List.mem_cons_of_mem _ (hrlm p hp))) (fun o => List.mem_cons_of_mem _ (List.mem_cons_of_mem _ hhe)) ch9 ((q9 _ (by decide) (by decide) (by decide) (by decide) (by decide) (by decide)).trans q2) ((q9 _ (by decide) (by decide) (by decide) (by decide) (by decide) (by decide)).trans q3) ((k9 _ (by decide) (by decide)).trans es8) ((q9 _ (by decide) (by decide) (by decide) (by decide) (by decide) (by decide)).trans q6) fun s10 m10 t10 o10 v10 hd10 k10 em10 G11 os10 gn10 => ?_
      replace G11 : Lg h₀ L m10 s10.heap ((it, rItn 16 (i + 1)) :: (L + 1 + 1, o10) :: base) := G11
      have os11 : s10.os = oo := os10.trans (os9.trans os8)
      have gn11 : AllBare gg → AllBare s10.gens := fun g => gn10 (gn9 (gn8 (hgX g)))
      obtain ⟨hZ, gZ, dZ, tZ, oZ⟩ := s10
      dsimp only at os11 gn11 G11
      subst os11
      have q10 : ∀ y, y ≠ ("sign" : Str) → y ≠ ("union" : Str) → y ≠ ("k" : Str) → y ≠ ("choice" : Str) → y ≠ ("told" : Str) → y ≠ ("covers" : Str) → y ≠ ("meets" : Str) → m10 y = m' y := fun y a1 a2 a3 a4 a5 a6 a7 => (k10 y a7).trans (q9 y a1 a2 a3 a4 a5 a6)
      exact ih k _ (Nat.lt_succ_self _) ⟨hZ, gZ, dZ, tZ, m10, t9, t10, tw, o10, v10, i + 1, rfl, gn11, by omega, hd10, (q10 _ (by decide) (by decide) (by decide) (by decide) (by decide) (by decide) (by decide)).trans q1, (q10 _ (by decide) (by decide) (by decide) (by decide) (by decide) (by decide) (by decide)).trans q2, (q10 _ (by decide) (by decide) (by decide) (by decide) (by decide) (by decide) (by decide)).trans q3, (q10 _ (by decide) (by decide) (by decide) (by decide) (by decide) (by decide) (by decide)).trans q4, (k10 _ (by decide)).trans ec9, em10, G11⟩
  · obtain ⟨rfl, e1, hgn', m', t1', t2', o2', q5, q6, GX⟩ := hr
    dsimp only
    refine wpAny_execs_cons ?_
    refine wpAny_Return_some ?_
    refine wpAny_Compare1 ?_
    refine nameX_L GX.fr q5 (nameX_L GX.fr q6 ?_)
    refine PyProof.Rows.eq_int ?_
    exact h s' m' o2' GX (e1.trans hos) (fun g => hgn' (hgn g))
end
end Mine
end
section
open PySem PySem.W PyProof.Rows PySem.Calls PySem.Spec Builtin
set_option Elab.async false
set_option maxRecDepth 100000
set_option maxHeartbeats 4000000
set_option pp.maxSteps 3000
namespace Mine
noncomputable def Sn : Nat → (Nat → Int) → Int
  | 0, _ => 0
  | n + 1, f => Sn n f + f n
theorem Sn_congr : ∀ (n : Nat) (f g : Nat → Int), (∀ i, i < n → f i = g i) → Sn n f = Sn n g
  | 0, _, _, _ => rfl
  | n + 1, f, g, h => by
    show Sn n f + f n = Sn n g + g n
    rw [Sn_congr n f g fun i hi => h i (Nat.lt_succ_of_lt hi), h n (Nat.lt_succ_self n)]
theorem Sn_add : ∀ (n : Nat) (f g : Nat → Int), Sn n (fun i => f i + g i) = Sn n f + Sn n g
  | 0, _, _ => rfl
  | n + 1, f, g => by
    show Sn n (fun i => f i + g i) + (f n + g n) = (Sn n f + f n) + (Sn n g + g n)
    rw [Sn_add n f g]
    omega
theorem Sn_zero : ∀ n : Nat, Sn n (fun _ => 0) = 0
  | 0 => rfl
  | n + 1 => by
    show Sn n (fun _ => 0) + 0 = 0
    rw [Sn_zero n]
    rfl
theorem Sn_mul (a : Int) : ∀ (n : Nat) (f : Nat → Int), Sn n (fun i => a * f i) = a * Sn n f
  | 0, _ => (Int.mul_zero a).symm
  | n + 1, f => by
    show Sn n (fun i => a * f i) + a * f n = a * (Sn n f + f n)
    rw [Sn_mul a n f, Int.mul_add]
theorem Sn_swap (k : Nat) (g : Nat → Nat → Int) : ∀ n : Nat, Sn n (fun c => Sn k (g c)) = Sn k (fun t => Sn n fun c => g c t)
  | 0 => (Sn_zero k).symm
  | n + 1 => by
    show Sn n (fun c => Sn k (g c)) + Sn k (g n) = Sn k (fun t => (Sn n fun c => g c t) + g n t)
    rw [Sn_swap k g n, Sn_add]
theorem covN_sum (ms : List Nat) : ∀ n, covN ms n = Sn n fun c => if un ms c 4 = 15 then sg c 4 else 0
  | 0 => rfl
  | n + 1 => by
    show covN ms n + _ = Sn n _ + _
    rw [covN_sum ms n]
theorem meetN_sum (rows : List (List Str)) (first : Nat) : ∀ n, meetN rows first n = Sn n fun c => if (rows.filter (missed (wordsS c first))).isEmpty then sg c 4 else 0
  | 0 => rfl
  | n + 1 => by
    show meetN rows first n + _ = Sn n _ + _
    rw [meetN_sum rows first n]
theorem inc_a : ∀ u : Nat, u < 16 → (if u = 15 then (1 : Int) else 0) = Sn 16 fun t => if u &&& t = 0 then sg t 4 else 0 := by decide +kernel
theorem inc_b : ∀ p0 p1 p2 p3 : Bool, (Sn 16 fun c => if ((!c.testBit 0 || p0) && (!c.testBit 1 || p1) && (!c.testBit 2 || p2) && (!c.testBit 3 || p3)) = true then sg c 4 else 0) = if (!p0 && !p1 && !p2 && !p3) = true then (1 : Int) else 0 := by decide +kernel
theorem un_zero (ms : List Nat) (c t : Nat) : ∀ k, decide (un ms c (k + 1) &&& t = 0) = (decide (un ms c k &&& t = 0) && (!c.testBit k || decide (ms.getD k 0 &&& t = 0))) := fun k => by
  conv => lhs; unfold un
  by_cases q : c.testBit k = true
  · rw [q, if_pos rfl]
    have : (un ms c k ||| ms.getD k 0) &&& t = (un ms c k &&& t) ||| (ms.getD k 0 &&& t) := by
      apply Nat.eq_of_testBit_eq
      intro j
      simp [Bool.and_or_distrib_right]
    rw [this]
    have e : ∀ a b : Nat, (a ||| b = 0) ↔ (a = 0 ∧ b = 0) := fun a b => by
      constructor
      · intro h
        have l : a ≤ a ||| b := Nat.left_le_or
        have r : b ≤ a ||| b := Nat.right_le_or
        omega
      · rintro ⟨rfl, rfl⟩; rfl
    rw [Bool.eq_iff_iff]
    simp only [decide_eq_true_eq, Bool.and_eq_true, Bool.not_true, Bool.false_or]
    exact e _ _
  · have q' : c.testBit k = false := by simpa using q
    rw [q', if_neg (by decide)]
    simp
theorem miss_eq : ∀ k, k < 16 → ∀ t, t < 16 → ∀ first, first < 8 → missed (wordsS t first) (preW k first 4) = decide (k &&& t = 0) := by decide +kernel
theorem dowker {ms : List Nat} {first : Nat} (hms : ms.length = 4) (hlt : ∀ k ∈ ms, k < 16) (hf : first < 8) : covN ms 16 = meetN (ms.map fun k => preW k first 4) first 16 := by
  rw [covN_sum, meetN_sum]
  have e1 : Sn 16 (fun c => if un ms c 4 = 15 then sg c 4 else 0) = Sn 16 (fun c => Sn 16 fun t => sg c 4 * (if un ms c 4 &&& t = 0 then sg t 4 else 0)) := Sn_congr _ _ _ fun c _ => by
    rw [Sn_mul, ← inc_a _ (un16 hlt c 4)]
    split
    · rw [Int.mul_one]
    · rw [Int.mul_zero]
  rw [e1, Sn_swap]
  refine Sn_congr _ _ _ fun t ht => ?_
  have e2 : (Sn 16 fun c => sg c 4 * (if un ms c 4 &&& t = 0 then sg t 4 else 0)) = sg t 4 * Sn 16 fun c => if un ms c 4 &&& t = 0 then sg c 4 else 0 := by
    rw [← Sn_mul]
    refine Sn_congr _ _ _ fun c _ => ?_
    split
    · exact Int.mul_comm _ _
    · rw [Int.mul_zero, Int.mul_zero]
  rw [e2]
  obtain ⟨a, b, c', d, rfl⟩ : ∃ a b c d, ms = [a, b, c, d] := by
    match ms, hms with
    | [a, b, c, d], _ => exact ⟨a, b, c, d, rfl⟩
  have e3 : (Sn 16 fun c => if un [a, b, c', d] c 4 &&& t = 0 then sg c 4 else 0) = if (!decide (a &&& t = 0) && !decide (b &&& t = 0) && !decide (c' &&& t = 0) && !decide (d &&& t = 0)) = true then (1 : Int) else 0 := by
    rw [← inc_b]
    refine Sn_congr _ _ _ fun c _ => ?_
    have : decide (un [a, b, c', d] c 4 &&& t = 0) = ((!c.testBit 0 || decide (a &&& t = 0)) && (!c.testBit 1 || decide (b &&& t = 0)) && (!c.testBit 2 || decide (c' &&& t = 0)) && (!c.testBit 3 || decide (d &&& t = 0))) := by
      rw [un_zero, un_zero, un_zero, un_zero]
      rw [show decide (un [a, b, c', d] c 0 &&& t = 0) = true by simp [un], Bool.true_and]
      rfl
    rw [← this]
    by_cases q : un [a, b, c', d] c 4 &&& t = 0
    · rw [if_pos q, if_pos (decide_eq_true q)]
    · rw [if_neg q, if_neg (by rw [decide_eq_false q]; decide)]
  rw [e3]
  have h4 : ((([a, b, c', d].map fun k => preW k first 4)).filter (missed (wordsS t first))).isEmpty = (!decide (a &&& t = 0) && !decide (b &&& t = 0) && !decide (c' &&& t = 0) && !decide (d &&& t = 0)) := by
    have ma := miss_eq a (hlt a (by simp)) t ht first hf
    have mb := miss_eq b (hlt b (by simp)) t ht first hf
    have mc := miss_eq c' (hlt c' (by simp)) t ht first hf
    have md := miss_eq d (hlt d (by simp)) t ht first hf
    simp only [List.map_cons, List.map_nil, List.filter_cons, List.filter_nil, ma, mb, mc, md]
    cases decide (a &&& t = 0) <;> cases decide (b &&& t = 0) <;> cases decide (c' &&& t = 0) <;> cases decide (d &&& t = 0) <;> rfl
  rw [h4]
  split
  · rw [Int.mul_one]
  · rw [Int.mul_zero]
end Mine
end
section
open PySem PySem.W PyProof.Rows PySem.Calls PySem.Spec Builtin
set_option Elab.async false
set_option maxRecDepth 100000
set_option maxHeartbeats 4000000
set_option pp.maxSteps 3000
namespace Mine
theorem fillT12 (w : World) (h₀ : Heap) : (hd.heap_1 w.params).In h₀ → PySem.Challenge.rw_zd0011_01.Holds → True := by k_fill; intros; trivial
section
variable {w : World} {mg mb : Str → Option Value} {A : Around} {s : Shared} {h₀ h : Heap} {L K fa : Addr} {cd : Value} {m : Str → Option Value} {l la r rest news : List (Addr × Obj)} {E : Value → Shared → Prop} {Q : Flow → Shared → Prop}
theorem nats_snoc {us : List Value} {ks : List Nat} {k : Nat} {t : Tok} (h : NatsAre us ks) : NatsAre (us ++ [.int (k : Int) t]) (ks ++ [k]) := by
  obtain ⟨h1, h2⟩ := h
  refine ⟨by simp [h1], fun i k' hi => ?_⟩
  by_cases q : i < ks.length
  · rw [List.getElem?_append_left q] at hi
    rw [List.getElem?_append_left (by omega)]
    exact h2 i k' hi
  · have hl := (List.getElem?_eq_some_iff.mp hi).1
    have hi' : i = ks.length := by
      rw [List.length_append, List.length_singleton] at hl
      omega
    subst hi'
    rw [List.getElem?_append_right (Nat.le_refl _), Nat.sub_self] at hi
    have e : k = k' := by simpa using hi
    subst e
    refine ⟨t, ?_⟩
    rw [List.getElem?_append_right (by omega), h1, Nat.sub_self]
    rfl
theorem nameG_B {env : Env} {x : Str} {pos : Pos} {v : Value} {E Q : Value → Shared → Prop} (F : Fr h₀ L s.heap m) (X : (hd.heap_1 w.params).In h₀) (T : TopRead Mine.view LL mg mb h₀) (e : nsIn (hd.heap_1 w.params) mainGlobals x = some none) (hv : bootBuiltins x = some v) (hn : x ≠ "__name__") (h : Q v s)
    (hg : env.globals = mainGlobals) (hb : env.builtins = builtinsNs) (hk : env.scope.kind = .function) (hx : env.kindOf x = some .globalImplicit) (hd : (x == ("__debug__" : Str)) = false) : wpAny (model PP w) A (PySem.eval (.Name x pos) env) Q E s :=
  Name_function_global hk hx (loadGlobal_builtin (env := env) (by rw [hg]; exact T.g.keeps F.keep) (mg_none_of X T.g e) (by rw [hb]; exact T.b.keeps F.keep) ((T.builtins x hn).trans hv) h) hd
theorem start {sl : Addr} {vs : List Value} {ns : List Int} {o1 o2 : Obj} {v1 : Option Value} (hsl : s.heap.IsList sl vs.toArray) (hns : IntsAre vs ns) (hnl : ns.length ≤ 63) (R : Rm A 30) (W : Wd w mg mb h₀)
    (hk : ∀ o, s.heap.get? sl = some o → h₀.get? sl = some o)
    (G : Lg h₀ L m s.heap ([(L + 1 + 1, o2), (L + 1, o1)] ++ rest)) (hd1 : o1.data = .cell v1) (m1 : m "script" = some (.ref sl))
    (h : ∀ s' m' o1' ms mv mn ml he hn first wd tf tw, ms.length = 4 → (∀ k ∈ ms, k < 16) → NatsAre mv ms → first < 8 → m' "masks" = some (.ref ml) → m' "first" = some (.int (first : Nat) tf) → m' "width" = some (.int wd tw) → m' "heard" = some (.ref he) →
      Lg h₀ L m' s'.heap ((he, listO [] hn) :: (ml, listO mv mn) :: (L + 1 + 1, o2) :: (L + 1, o1') :: rest) → s'.os = s.os → (AllBare s.gens → AllBare s'.gens) → wpAny (model PP w) A (execs (lawBody.drop 6) (lawEnv L fa cd)) Q E s') :
    wpAny (model PP w) A (execs lawBody (lawEnv L fa cd)) Q E s := by
  obtain ⟨hh, gg, dd, tk0, oo⟩ := s
  dsimp only at G h hsl hk
  have hsl0 : h₀.IsList sl vs.toArray := by
    obtain ⟨o, e, r⟩ := hsl
    exact ⟨o, hk o e, r⟩
  refine wpAny_execs_cons ?_
  refine wpAny_Assign_Name ?_
  refine Subscript_ (nameX_L (s := ⟨hh, _, _, _, _⟩) G.fr m1 ?_)
  refine wpAny_Slice ?_
  rw [evalPart_some, evalPart_none]
  refine wpAny_pure ?_
  refine wpAny_Constant_int (wpAny_pure ?_)
  dsimp only
  have hdr : IntsAre (slicePick vs.toArray none (some 32) none).toList (ns.take 32) := slice_ints_uptoW hns (by decide)
  generalize hdv : (slicePick vs.toArray none (some 32) none).toList = dv at hdr
  have hdl : (ns.take 32).length ≤ 32 := by rw [List.length_take]; omega
  generalize ns.take 32 = dn at hdr hdl
  refine kmk_slice_lit (s := ⟨hh, gg, dd, tk0 + 1, oo⟩) (zs := dv) (its := vs.toArray) G.fr G.nw hsl .none (.int _ _) hdv (fun D h1 F1 N1 hlt => ?_) (by rfl) (by intro _; rfl) (by rw [List.size_toArray, hns.length]; exact size_fits' (by omega))
  have G1 : Lg h₀ L m h1 ((D, listO dv 0) :: ([(L + 1 + 1, o2), (L + 1, o1)] ++ rest)) := G.slice F1 N1 hlt
  refine storeC (s := ⟨h1, _, _, _, _⟩) G1 (i := 2) rfl rfl hd1 fun h2 o1' d1 G2 => ?_
  replace G2 : Lg h₀ L m h2 ((D, listO dv 0) :: (L + 1 + 1, o2) :: (L + 1, o1') :: rest) := G2
  dsimp only
  refine wpAny_execs_cons ?_
  refine wpAny_Assign_Name ?_
  refine Call_ ?_
  refine nameX_B (s := ⟨h2, _, _, _, _⟩) G2.fr W.X W.T (by k_is) (by boot_by_name) (by decide) ?_
  refine PyProof.Rows.callWith_builtin1 (spliced_more (nameC (s := ⟨h2, _, _, _, _⟩) G2 (i := 2) rfl rfl d1 (spliced_none ?_)))
  refine LSm.sum_ints (s := ⟨h2, _, _, _, _⟩) G2.fr G2.nw R.h ⟨_, G2.get (i := 0) rfl, rfl, _, rfl⟩ hdr (fun h3 tk3 t3 F3 N3 => ?_)
  have G3 : Lg h₀ L m h3 ((D, listO dv 0) :: (L + 1 + 1, o2) :: (L + 1, o1') :: rest) := ⟨F3, N3, G2.nd⟩
  generalize dn.sum = tot
  refine storeN (s := ⟨h3, _, _, _, _⟩) G3 fun h4 m4 e4 k4 G4 => ?_
  dsimp only
  refine wpAny_execs_cons ?_
  refine wpAny_Assign_Name ?_
  refine wpAny_BinOp (wpAny_BinOp (wpAny_Constant_int (nameX_L (s := ⟨h4, _, _, _, _⟩) G4.fr e4 ?_)))
  refine PyProof.Rows.add_int (wpAny_Constant_int (PyProof.Rows.mod_int (by decide) ?_))
  obtain ⟨first, hf8, hfe⟩ : ∃ first : Nat, first < 8 ∧ (7 + tot).fmod 8 = (first : Int) := by
    have a := Int.fmod_nonneg_of_pos (7 + tot) (by decide : (0 : Int) < 8)
    have b := Int.fmod_lt_of_pos (7 + tot) (by decide : (0 : Int) < 8)
    exact ⟨((7 + tot).fmod 8).toNat, by omega, by omega⟩
  rw [hfe]
  refine storeN (s := ⟨h4, _, _, _, _⟩) G4 fun h5 m5 e5 k5 G5 => ?_
  dsimp only
  refine wpAny_execs_cons ?_
  refine wpAny_Assign_Name ?_
  refine wpAny_BinOp (wpAny_BinOp (wpAny_Constant_int (wpAny_BinOp (nameX_L (s := ⟨h5, _, _, _, _⟩) G5.fr (lk k5 e4) (wpAny_Constant_int ?_)))))
  refine floordiv_int (by decide) ?_ (.inl (PyProof.noPylong_of_log2 (by decide +kernel)))
  refine PyProof.Rows.add_int (wpAny_Constant_int (PyProof.Rows.mod_int (by decide) ?_))
  generalize (20 + tot.fdiv 8).fmod 64 = wd
  refine storeN (s := ⟨h5, _, _, _, _⟩) G5 fun h6 m6 e6 k6 G6 => ?_
  dsimp only
  obtain ⟨tz, etz⟩ : ∃ tz, tz = m6 "width" := ⟨_, rfl⟩
  replace e6 : ∃ tw, m6 "width" = some (.int wd tw) := ⟨_, e6⟩
  obtain ⟨tw, e6⟩ := e6
  replace e5 : ∃ tf, m5 "first" = some (.int (first : Int) tf) := ⟨_, e5⟩
  obtain ⟨tf, e5⟩ := e5
  clear tz etz
  refine wpAny_execs_cons ?_
  refine LCg.Assign_ListComp_U (s := ⟨h6, _, _, _, _⟩) G6.fr rfl (by with_unfolding_all rfl) (cl := [("drawn", L + 1)]) (by with_unfolding_all rfl) (by decide) (by rfl) (by decide) (by rfl) (by rfl) (by rfl) ?_
  refine Call_ ?_
  refine nameX_B (s := ⟨h6, _, _, _, _⟩) G6.fr W.X W.T (by k_is) (by boot_by_name) (by decide) ?_
  refine PyProof.Rows.callWith_type1 (spliced_more (wpAny_Constant_int (spliced_none ?_)))
  refine call_range_1 ?_
  dsimp only
  generalize tk3 + 1 + 1 + 1 + 1 + 1 + 1 + 1 + 1 + 1 + 1 + 1 + 1 = tk6
  have G7 := G6.alloc { cls := .type "range", data := .fields #[.int 0 (tk6 + 1 + 1), .int 4 (tk6 + 1), .int 1 (tk6 + 1 + 1 + 1)] }
  refine LCg.CompSrc.range (n := 4) R.h G7.fr (G7.drop (.cons _ (.refl _))).nw (G7.get (i := 0) rfl) (by decide) (by rfl) (size_fits' (by decide)) (fun gh => ?_)
  refine restU_inv (n := 4) (I := fun i us nw => (∃ ks : List Nat, ks.length = i ∧ (∀ k ∈ ks, k < 16) ∧ NatsAre us ks) ∧ nw = (D, listO dv 0) :: (L + 1 + 1, o2) :: (L + 1, o1') :: rest) ?_ ?_ 4 0 [] _ (by omega) ⟨⟨[], rfl, by simp, rfl, by simp⟩, rfl⟩
  · rintro k i us nw hik ⟨⟨ks, hkl, hks, hku⟩, rfl⟩ ih
    refine LCg.CompRest.succ ?_
    rintro v I oI C oC D2 m₂ h7 tk7 E' ⟨tv, rfl⟩ hC hx F7 N7 off7 ne7
    dsimp only
    have gC : h7.Ns C m₂ := hC.ns (N7 (C, oC) (by simp)).1
    have ekv : (0 : Int) + (i : Int) = (i : Int) := by omega
    rw [ekv] at hx
    refine wpAny_BinOp (wpAny_BinOp ?_)
    refine Subscript_ ?_
    refine List_ (spliced_more (wpAny_Constant_int (spliced_more (wpAny_Constant_int (spliced_more (wpAny_Constant_int (spliced_more (wpAny_Constant_int (spliced_none ?_)))))))))
    refine wpAny_newObj_type ?_ (by show 4 ≤ sizeLine; rw [sizeLine_eq]; omega)
    dsimp only
    have up : ∀ b o, h7.get? b = some o → (h7.push (listO [.int 6 tk7, .int 9 (tk7 + 1), .int 5 (tk7 + 1 + 1), .int 10 (tk7 + 1 + 1 + 1)] 0)).get? b = some o := fun b o e => Heap.get?_push_of_some _ e
    refine wpAny_Name (wpAny_loadName_local rfl (by rfl) (gC.keeps up) hx ?_) (by decide)
    have hq : (h7.push (listO [.int 6 tk7, .int 9 (tk7 + 1), .int 5 (tk7 + 1 + 1), .int 10 (tk7 + 1 + 1 + 1)] 0)).get? h7.objs.size = some (listO [.int 6 tk7, .int 9 (tk7 + 1), .int 5 (tk7 + 1 + 1), .int 10 (tk7 + 1 + 1 + 1)] 0) := Heap.get?_push_size _ rfl
    obtain ⟨q, tq, hqi⟩ : ∃ (q : Int) (tq : Tok), ([Value.int 6 tk7, Value.int 9 (tk7 + 1), Value.int 5 (tk7 + 1 + 1), Value.int 10 (tk7 + 1 + 1 + 1)] : List Value)[i]? = some (Value.int q tq) := by
      have hi4 : i < 4 := by omega
      match i, hi4 with
      | 0, _ => exact ⟨_, _, rfl⟩
      | 1, _ => exact ⟨_, _, rfl⟩
      | 2, _ => exact ⟨_, _, rfl⟩
      | 3, _ => exact ⟨_, _, rfl⟩
    refine subscriptTail_builtinR (s := ⟨_, _, _, _, _⟩) (x := .int q tq) (T := "list") ⟨_, hq, rfl⟩ list_getitem_lookup (wpAny_getItem_list (s := ⟨_, _, _, _, _⟩) (items := ([Value.int 6 tk7, Value.int 9 (tk7 + 1), Value.int 5 (tk7 + 1 + 1), Value.int 10 (tk7 + 1 + 1 + 1)] : List Value).toArray) ⟨_, hq, rfl, _, rfl⟩ (by omega) (by omega) (x := .int q tq) (by
      simpa using hqi) ⟨rfl, ?_⟩)
    obtain ⟨h8, eh8⟩ : ∃ h8, h8 = h7.push (listO [.int 6 tk7, .int 9 (tk7 + 1), .int 5 (tk7 + 1 + 1), .int 10 (tk7 + 1 + 1 + 1)] 0) := ⟨_, rfl⟩
    have F8 : Fr h₀ L h8 m6 := by rw [eh8]; exact F7.keeps up
    have N8 : News h₀ L h8 ((I, oI) :: (C, oC) :: (D2, LCg.lst us) :: (D, listO dv 0) :: (L + 1 + 1, o2) :: (L + 1, o1') :: rest) := by rw [eh8]; exact N7.keeps up
    have gC8 : h8.Ns C m₂ := by rw [eh8]; exact gC.keeps up
    show wpAny (model PP w) A _ _ _ ⟨h7.push (listO [.int 6 tk7, .int 9 (tk7 + 1), .int 5 (tk7 + 1 + 1), .int 10 (tk7 + 1 + 1 + 1)] 0), _, _, _, _⟩
    rw [← eh8]
    clear eh8 hq up hqi
    refine Call_ ?_
    refine nameG_B (s := ⟨h8, _, _, _, _⟩) F8 W.X W.T (by k_is) (by boot_by_name) (by decide) ?_ rfl rfl rfl (by rfl) (by decide)
    refine PyProof.Rows.callWith_builtin1 (spliced_more (Subscript_ ?_))
    have gd : h8.get? (L + 1) = some o1' := (N8 (L + 1, o1') (by simp)).1
    have gD : h8.get? D = some (listO dv 0) := (N8 (D, listO dv 0) (by simp)).1
    refine wpAny_Name (wpAny_loadName_cell (c := L + 1) (v := .ref D) rfl (by rfl) (by rfl) ⟨o1', gd, d1⟩ ?_) (by decide)
    refine wpAny_Slice ?_
    rw [evalPart_some, evalPart_none, evalPart_some]
    refine wpAny_Name (wpAny_loadName_local rfl (by rfl) gC8 hx ?_) (by decide)
    refine wpAny_pure ?_
    refine wpAny_Constant_int ?_
    dsimp only
    have hpk := hdr.pick (some (i : Int)) none (some 4)
    generalize hpv : (slicePick dv.toArray (some (i : Int)) none (some 4)).toList = pv at hpk
    generalize pickNums dn (some (i : Int)) none (some 4) = pn at hpk
    have hdvl : dv.length ≤ 32 := by rw [hdr.length]; exact hdl
    refine kmk_slice3_lit (s := ⟨h8, gg, dd, tk7 + 1 + 1 + 1 + 1 + 1, oo⟩) (zs := pv) (its := dv.toArray) F8 N8 ⟨_, gD, rfl, _, rfl⟩ (.int _ _) .none (.int _ _) (by decide) hpv (fun D3 h9 F9 N9 hlt9 => ?_) (by rfl) (by intro _; rfl) (by rw [List.size_toArray]; exact size_fits' (by omega))
    dsimp only
    refine spliced_none ?_
    refine LSm.sum_ints (s := ⟨h9, _, _, _, _⟩) F9 N9 R.h ⟨_, (N9 (D3, _) List.mem_cons_self).1, rfl, _, rfl⟩ hpk (fun h10 tk10 t10 F10 N10 => ?_)
    dsimp only
    refine PyProof.Rows.add_int (wpAny_Constant_int (PyProof.Rows.mod_int (by decide) ?_))
    obtain ⟨kq, hkq, hke⟩ : ∃ kq : Nat, kq < 16 ∧ (q + pn.sum).fmod 16 = (kq : Int) := by
      have a := Int.fmod_nonneg_of_pos (q + pn.sum) (by decide : (0 : Int) < 16)
      have b := Int.fmod_lt_of_pos (q + pn.sum) (by decide : (0 : Int) < 16)
      exact ⟨((q + pn.sum).fmod 16).toNat, by omega, by omega⟩
    rw [hke]
    refine LCg.CompEnd.intro F10 N10 _ (fun p hp => List.mem_cons_of_mem _ hp) off7 trivial (ih _ _ ⟨⟨ks ++ [kq], by simp [hkl], ?_, nats_snoc hku⟩, rfl⟩)
    intro x hx'
    rcases List.mem_append.mp hx' with hx' | hx'
    · exact hks x hx'
    · rw [List.mem_singleton.mp hx']; exact hkq
  · rintro us nw ⟨⟨ms, hml, hms, hmu⟩, rfl⟩ D2 h7 tk7 F7 N7 off7
    dsimp only
    have G8 := G6.fin F7 N7 off7
    obtain ⟨m7, em7, km7, G8⟩ : ∃ m7 : Str → Option Value, m7 "masks" = some (.ref D2) ∧ (∀ y, y ≠ ("masks" : Str) → m7 y = m6 y) ∧ Lg h₀ L m7 h7 ((D2, LCg.lst us) :: (D, listO dv 0) :: (L + 1 + 1, o2) :: (L + 1, o1') :: rest) := ⟨_, if_pos rfl, fun _ hy => if_neg hy, G8⟩
    refine wpAny_execs_cons ?_
    refine wpAny_Assign_Name ?_
    refine List_ (spliced_none ?_)
    refine wpAny_newObj_type ?_
    have G9 := G8.alloc (listO [] 0)
    refine storeN (s := ⟨_, _, _, _, _⟩) G9 fun h10 m10 e10 k10 G10 => ?_
    dsimp only
    exact h ⟨h10, gg, dd, _, oo⟩ m10 o1' ms us _ D2 h7.objs.size 0 first wd tf tw hml hms hmu hf8 (lk k10 em7) (lk k10 ((km7 _ (by decide)).trans (lk k6 e5))) (lk k10 ((km7 _ (by decide)).trans e6)) e10 (G10.drop (.cons_cons _ (.cons_cons _ (.cons _ (.refl _))))) rfl id
end
end Mine
end
section
open PySem PySem.W PyProof.Rows PySem.Calls PySem.Spec Builtin
set_option Elab.async false
set_option maxRecDepth 100000
set_option maxHeartbeats 4000000
set_option pp.maxSteps 3000
namespace Mine
section
variable {w : World} {mg mb : Str → Option Value} {A : Around} {s : Shared} {h₀ h : Heap} {L K fa : Addr} {cd : Value} {m : Str → Option Value} {l la r rest news : List (Addr × Obj)} {E : Value → Shared → Prop} {Q : Flow → Shared → Prop}
theorem law_walk {sl : Addr} {vs : List Value} {ns : List Int} {o1 o2 : Obj} {v1 v2 : Option Value} {t1 t2 : List Value} (hsl : s.heap.IsList sl vs.toArray) (hns : IntsAre vs ns) (hnl : ns.length ≤ 63) (R : Rm A 30) (W : Wd w mg mb h₀)
    (hk : ∀ o, s.heap.get? sl = some o → h₀.get? sl = some o) (ok1 : TriplesOk t1) (ok2 : TriplesOk t2)
    (G : Lg h₀ L m s.heap ([(L + 1 + 1, o2), (L + 1, o1)] ++ [(182, tabO t1), (189, tabO t2)])) (hd1 : o1.data = .cell v1) (hd2 : o2.data = .cell v2) (m1 : m "script" = some (.ref sl))
    (h : ∀ s' m' t1' t2', Lg h₀ L m' s'.heap ([(182, tabO t1'), (189, tabO t2')]) → s'.os = s.os → (AllBare s.gens → AllBare s'.gens) → Q (.ret (.bool true)) s') :
    wpAny (model PP w) A (execs lawBody (lawEnv L fa cd)) Q E s := by
  refine start hsl hns hnl R W hk G hd1 m1 fun s1 n1 o1' ms mv mn ml he hn first wd tf tw hms hlt hmv hf q1 q2 q3 q4 G1 os1 gn1 => ?_
  have G2 : Lg h₀ L n1 s1.heap ([(182, tabO t1), (189, tabO t2)] ++ ((he, listO [] hn) :: [(ml, listO mv mn), (L + 1 + 1, o2), (L + 1, o1')])) := G1.perm (List.perm_append_comm (l₁ := [(182, tabO t1), (189, tabO t2)]) (l₂ := [(he, listO [] hn), (ml, listO mv mn), (L + 1 + 1, o2), (L + 1, o1')]))
  refine for1 hms hlt hmv hf R W ok1 ok2 G2 List.mem_cons_self q1 q2 q3 q4 fun s3 n3 u1 u2 hv rl hn' oku1 oku2 hH p1 p2 p4 G3 os3 gn3 => ?_
  have G4 : Lg h₀ L n3 s3.heap ((L + 1 + 1, o2) :: ((182, tabO u1) :: (189, tabO u2) :: (he, listO hv hn') :: (ml, listO mv mn) :: (L + 1, o1') :: rl)) := by
    refine G3.perm ?_
    exact (List.perm_middle (l₁ := [(182, tabO u1), (189, tabO u2), (he, listO hv hn'), (ml, listO mv mn)])).symm
  refine for2 (mn := mn) (hn := hn') (rows := ms.map fun k => preW k first 4) hms hlt hmv hf hH (by simp [hms]) (fun row hr => ?_) R W G4 hd2 (by simp) (by simp) (fun p hp => by simp [hp]) p1 p2 p4 fun s5 n5 o5 G5 os5 gn5 => ?_
  · obtain ⟨k, _, rfl⟩ := List.mem_map.mp hr
    have := preW_len (mask := k) (first := first) 4
    omega
  · rw [dowker hms hlt hf]
    rw [show (meetN (ms.map fun k => preW k first 4) first 16 == meetN (ms.map fun k => preW k first 4) first 16) = true from by simp]
    refine h s5 n5 u1 u2 (G5.drop ?_) (os5.trans (os3.trans os1)) (fun g => gn5 (gn3 (gn1 g)))
    exact .cons _ (.cons_cons _ (.cons_cons _ (List.nil_sublist _)))
end
end Mine
end
section
open PySem PySem.W PyProof.Rows PySem.Calls PySem.Spec Builtin
set_option Elab.async false
set_option maxRecDepth 100000
set_option maxHeartbeats 4000000
set_option pp.maxSteps 3000
namespace Mine
theorem fillT14 (w : World) (h₀ : Heap) : (hd.heap_1 w.params).In h₀ → PySem.Challenge.rw_zd0011_01.Holds → True := by k_fill; intros; trivial
section
variable {w : World} {mg mb : Str → Option Value} {A : Around} {s : Shared} {h₀ h : Heap} {L : Addr} {v : Value} {m : Str → Option Value} {core rest news : List (Addr × Obj)}
/-- a def is entered from the top; the core is hidden from the ground -/
theorem top_defC {R : Result → Shared → Prop} {f : Addr} {fo : Obj} {name qual : Str} {params : Arguments} {body : List Stmt} {scope : Scope} {dV kV doc pm cdv ct : Value} {an : Option Addr} {vals : List Value} {binds : List (Str × Value)}
    (X : (hd.heap_1 w.params).In s.heap) (NL : s.heap.NoLimit) (hcore : ∀ p ∈ core, s.heap.get? p.1 = some p.2) (ndc : (core.map (·.1)).Nodup) (ho : (hd.heap_1 w.params).lookup f = some fo) (hdt : fo.data = .func (fnX name qual params body scope [] dV kV doc pm an cdv ct)) (hcd : codeIn (hd.heap_1 w.params) cdv qual = true) (hroom : A.depth < recursionLimit)
    (hbind : BindsTo s (fnX name qual params body scope [] dV kV doc pm an cdv ct) ⟨vals, []⟩ binds)
    (hkind : ∀ n, ∀ x ∈ binds, scope.names.lookup x.1 = some .local ∨ (scope.names.lookup x.1 = some .cell ∧ ((cellsFrom n scope.names []).lookup x.1).isSome = true))
    (hnd : ((cellsFrom 0 scope.names []).map (·.1)).Nodup)
    (h : ∀ L' h₁ tk cells, Lg (hideAll s.heap (core.map (·.1))) L' (bindL (envOfC qual scope L' f cdv).kindOf binds fun _ => none) h₁ (cells ++ core) → (∀ b o, s.heap.get? b = some o → h₁.get? b = some o) →
      CellsAre (bindC (envOfC qual scope L' f cdv).kindOf binds fun _ => none) (cellsFrom (L' + 1) scope.names []) cells →
      wpAny (model PP w) (A.deeper (envX qual scope L' f cdv (cellsFrom (L' + 1) scope.names []))) (execs body (envX qual scope L' f cdv (cellsFrom (L' + 1) scope.names []))) (fun fl s' => R (.ok (.ret (match fl with | .ret v => v | _ => .none))) s') (fun _ _ => False)
        { s with heap := h₁, toks := tk })
    (hco : scope.isCoroutine = false := by rfl) (hgen : scope.isGenerator = false := by rfl) (hk : scope.kind = .function := by rfl) : codeAny (model PP w) A (.call (.ref f) ⟨vals, []⟩) R s := by
  refine codeAny_call_function hroom (X _ _ ho) hdt hco hgen rfl (codeRec_of X hcd) (hbind _ _ _ _ ?_)
  refine wpAny_newFunctionEnv_cells hk (hkind _) fun env' he s' x => ?_
  subst he
  refine ⟨NL.keeps x.toInCall.keep, codeAny_func ?_⟩
  obtain ⟨h₁, tk, rfl, _⟩ := x.done
  have hk₁ := x.toInCall.keep
  obtain ⟨cells, NC, Y⟩ := Cl.news (h₀ := s.heap) (Nat.le_refl _) fun n c hm => ⟨x.cell n c (lookup_of_mem_nodup (cellsFrom_names scope.names 0 (s.heap.objs.size + 1) [] [] rfl ▸ hnd) hm), x.above n c hm⟩
  refine wpAny_mono (h s.heap.objs.size h₁ tk cells ⟨⟨x.toInCall.ns, fun b o e => hk₁ b o (of_hideAll _ e), Nat.le_of_eq (hideAll_size _ _)⟩, fun p hp => ?_, ?_⟩ hk₁ Y) (fun fl s' hl => hl) fun _ _ y => y.elim
  · rcases List.mem_append.mp hp with hp | hp
    · refine ⟨(NC p hp).1, (NC p hp).2.1, ?_⟩
      cases q : (hideAll s.heap (core.map (·.1))).get? p.1 with
      | none => rfl
      | some o => have := of_hideAll _ q; rw [(NC p hp).2.2] at this; cases this
    · exact ⟨hk₁ _ _ (hcore p hp), Nat.ne_of_lt (Heap.lt_size (hcore p hp)), hideAll_none _ (List.mem_map_of_mem hp)⟩
  · rw [List.map_append, List.nodup_append]
    refine ⟨?_, ndc, fun a ha b hb e => ?_⟩
    · rw [cellsAre_fst Y]; exact List.pairwise_map.mpr x.apart
    · obtain ⟨p, hp, rfl⟩ := List.mem_map.mp ha
      obtain ⟨q, hq, rfl⟩ := List.mem_map.mp hb
      have h1 := (NC p hp).2.2
      have h2 := hcore q hq
      rw [e, h2] at h1
      cases h1
theorem wd_hide {bm : Addr} {ob : Obj} (X : (hd.heap_1 w.params).In s.heap) (T : TopRead Mine.view LL mg mb s.heap) (M : BMod s.heap mainGlobals mg bm ob) (t1 : s.heap.get? 182 = some (tabO [])) (t2 : s.heap.get? 189 = some (tabO [])) : Wd w mg mb (hideAll s.heap [182, 189]) := by
  have nsk : ∀ {a : Addr} {f : Str → Option Value}, s.heap.Ns a f → (hideAll s.heap [182, 189]).Ns a f := fun {a f} n => by
    obtain ⟨o, es, ep, e, r⟩ := id n
    refine n.at' fun o' e' => hideAll_get _ e' fun hm => ?_
    simp only [List.mem_cons, List.not_mem_nil, or_false] at hm
    rcases hm with rfl | rfl
    · rw [t1] at e; cases e; cases r.1
    · rw [t2] at e; cases e; cases r.1
  have l1 : ∀ P : Params, (hd.heap_1 P).lookup 182 = none := fun _ => by kernel_rfl
  have l2 : ∀ P : Params, (hd.heap_1 P).lookup 189 = none := fun _ => by kernel_rfl
  refine ⟨fun a o e => hideAll_get _ (X a o e) fun hm => ?_, ⟨nsk T.g, nsk T.b, ?_, T.builtins, T.free⟩, bm, ob, ⟨nsk M.ns, M.name, M.ne, ?_, M.cls, M.dict, M.data⟩⟩
  · simp only [List.mem_cons, List.not_mem_nil, or_false] at hm
    rcases hm with rfl | rfl
    · rw [l1] at e; cases e
    · rw [l2] at e; cases e
  · obtain ⟨mc, h1, h2⟩ := T.nolimit
    exact ⟨mc, nsk h1, h2⟩
  · refine hideAll_get _ M.obj fun hm => ?_
    simp only [List.mem_cons, List.not_mem_nil, or_false] at hm
    have ho := M.obj
    have hc := M.cls
    rcases hm with rfl | rfl
    · rw [t1] at ho; cases ho; cases hc
    · rw [t2] at ho; cases ho; cases hc
theorem enter_law {R : Result → Shared → Prop} {bm : Addr} {ob : Obj} {sl : Addr} {vs : List Value} {ns : List Int} (X : (hd.heap_1 w.params).In s.heap) (T : TopRead Mine.view LL mg mb s.heap) (M : BMod s.heap mainGlobals mg bm ob) (t1 : s.heap.get? 182 = some (tabO [])) (t2 : s.heap.get? 189 = some (tabO []))
    (hsl : s.heap.IsList sl vs.toArray) (hns : IntsAre vs ns) (hnl : ns.length ≤ 63)
    (h : ∀ s' : Shared, ∀ u1 u2, (∀ b o, s.heap.get? b = some o → b ≠ 182 → b ≠ 189 → s'.heap.get? b = some o) → s'.heap.get? 182 = some (tabO u1) → s'.heap.get? 189 = some (tabO u2) → s'.os = s.os → (AllBare s.gens → AllBare s'.gens) → R (.ok (.ret (.bool true))) s') :
    codeAny (model PP w) callerA (.call (.ref 241) ⟨[.ref sl], []⟩) R s := by
  refine top_defC (core := [(182, tabO []), (189, tabO [])]) (binds := [("script", .ref sl)]) (body := lawBody) (scope := lawScope) X T.nolimit ?_ (by decide) (by k_is) rfl (by k_is) (by decide +kernel) (.of_eq rfl) ?_ (by decide +kernel) ?_
  · intro p hp
    simp only [List.mem_cons, List.not_mem_nil, or_false] at hp
    rcases hp with rfl | rfl
    · exact t1
    · exact t2
  · intro n x hx
    simp only [List.mem_cons, List.not_mem_nil, or_false] at hx
    subst hx
    exact .inl (by rfl)
  · intro L' h₁ tk cells G hk Y
    obtain ⟨o2, o1, rfl, d2, d1⟩ := CellsAre.two Y
    clear Y
    obtain ⟨o, e, r⟩ := id hsl
    have hsn : sl ∉ [182, 189] := fun hm => by
      simp only [List.mem_cons, List.not_mem_nil, or_false] at hm
      rcases hm with rfl | rfl
      · rw [t1] at e; cases e; cases r.1
      · rw [t2] at e; cases e; cases r.1
    refine law_walk (s := ⟨h₁, _, _, _, _⟩) (t1 := []) (t2 := []) ⟨o, hk _ _ e, r⟩ hns hnl ⟨rfl, by show 1 + claimMargin + 1 + 30 < recursionLimit; decide +kernel, by show 4 + 3 + 10 * 30 < cLine; decide +kernel⟩ (wd_hide X T M t1 t2) (fun o' e' => ?_) trivial trivial G d1 d2 rfl fun s' m' u1 u2 G' os gn => ?_
    · rw [hk _ _ e] at e'
      cases e'
      exact hideAll_get _ e hsn
    · refine h s' u1 u2 (fun b o' e' n1 n2 => G'.fr.keep b o' (hideAll_get _ e' fun hm => ?_)) (G'.get (i := 0) rfl) (G'.get (i := 1) rfl) os gn
      simp only [List.map_cons, List.map_nil, List.mem_cons, List.not_mem_nil, or_false] at hm
      rcases hm with hm | hm
      · exact n1 hm
      · exact n2 hm
end
end Mine
end
section
open PySem PySem.W PyProof.Rows PySem.Calls PySem.Spec Builtin
set_option Elab.async false
set_option maxRecDepth 100000
set_option maxHeartbeats 8000000
set_option pp.maxSteps 3000
namespace Mine
theorem fillT15 (w : World) (h₀ : Heap) : (hd.heap_1 w.params).In h₀ → PySem.Challenge.rw_zd0011_01.Holds → True := by k_fill; intros; trivial
theorem tab_was {h h' : Heap} {P : Addr} {u : List Value} (hc : isCodeTable h P) (e : h.get? P = some (tabO [])) (e' : h'.get? P = some (tabO u)) (o : Obj) (ho : h.get? P = some o) : asItWas h h' P o := by
  rw [e] at ho
  cases ho
  refine .inr (.inl ⟨hc, rfl, #[], u.toArray, rfl, ?_⟩)
  rw [Array.empty_append]
  exact e'
theorem old_law {w : World} {h h' : Heap} {u1 u2 : List Value} (X : (hd.heap_1 w.params).In h) (t1 : h.get? 182 = some (tabO [])) (t2 : h.get? 189 = some (tabO [])) (kp : ∀ b o, h.get? b = some o → b ≠ 182 → b ≠ 189 → h'.get? b = some o) (e1 : h'.get? 182 = some (tabO u1)) (e2 : h'.get? 189 = some (tabO u2)) : OldK h h' := by
  refine ⟨fun b o e => ?_, fun b o e => ?_⟩
  · by_cases q1 : b = 182
    · subst q1
      have hx := X 186 _ (by k_is)
      exact tab_was ⟨186, _, _, hx, rfl, rfl, rfl⟩ t1 e1 o e
    · by_cases q2 : b = 189
      · subst q2
        have hx := X 193 _ (by k_is)
        exact tab_was ⟨193, _, _, hx, rfl, rfl, rfl⟩ t2 e2 o e
      · exact .inl (kp b o e q1 q2)
  · by_cases q1 : b = 182
    · exact ⟨_, q1 ▸ e1⟩
    · by_cases q2 : b = 189
      · exact ⟨_, q2 ▸ e2⟩
      · exact ⟨o, kp b o e q1 q2⟩
theorem post_law (ns : List Int) : PySem.Challenge.rw_zd0011_01.row.claim.post [ofPy (PyData.list (ns.map PyData.int))] (WData.bool true) [ofPy (PyData.list (ns.map PyData.int))] = true := by
  wrow_post
theorem law_at {w : World} {h : Heap} {mg : Str → Option Value} (X : (hd.heap_1 w.params).In h) (G : h.Ns mainGlobals mg) : mg (Str.ofString "law") = some (.ref 241) := mg_of X G (by k_is)
end Mine
end
open PySem PySem.W PyProof.Rows PySem.Calls PySem.Spec Builtin
set_option Elab.async false
set_option maxRecDepth 100000
set_option maxHeartbeats 8000000
set_option pp.maxSteps 3000
theorem PySem.Challenge.cw_zd0011_01_holds : PySem.Challenge.rw_zd0011_01.Holds := by
  refine Mine.hd ⟨Mine.left, ?_⟩
  w_strict (
    intro w s₀ s₁ mg mb G Y fa o pm cd doc dV kV ho hd hcd hD hmg hg args vals as hpre hlay hrd hwl hlo
    have KX := km_in_of Y
    have KT := km_tabs_of Y
    have X := (Ground.X G).1
    have V := (Ground.X G).2
    refine Ground.open G ?_
    intro T B D TE TW
    try (refine guard_noD D (by decide +kernel) ?_; clear D)
    obtain ⟨bm, ob, M⟩ := bmod_of_top T
    have hfa := hmg.symm.trans (Mine.law_at KX (Top.g T))
    obtain rfl : fa = 241 := by simpa using hfa
    clear hmg hfa hcd hd hD ho
    wrow_args hpre hlay hrd hwl hlo
    first | refine callC_kw (enter_call ?_) | refine enter_call ?_ | refine callC_kw (enter_callW ?_) | refine enter_callW ?_ | w_how
    rename_i hL _ _ _ hI _ hcond _
    refine Mine.enter_law KX (topRead_of T) M (KT 182 (by simp)) (KT 189 (by simp)) hL hI (by omega) fun s' u1 u2 kp e1 e2 os gn => ?_
    refine ⟨.inl ⟨.bool true, .bool true, [], rfl, ?_, .bool true, ?_, ?_⟩, Mine.old_law KX (KT 182 (by simp)) (KT 189 (by simp)) kp e1 e2, os, gn ?_⟩
    · exact fun _ => rfl
    · exact Mine.post_law _
    · exact fun _ => ⟨List.nodup_nil, fun a ha => nomatch ha⟩
    · exact .of_eq hg)
