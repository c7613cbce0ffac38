import PyProof.Rows.All
import Wide.All
import OpenK.AllK
import Wide.FinOn
import KE.KNestM
import KE.KStateDown
import Lean
import PySem.Challenge.RW_wu0023_01
set_option Elab.async false
set_option compiler.extract_closed false
section
open PySem PySem.W PyProof.Rows
set_option maxRecDepth 100000
set_option maxHeartbeats 8000000
namespace Mine
section
local macro_rules | `(tactic| o_head $H) => `(tactic| (have hk : Hook := $H; clear hk; assumption))
/-- the written part of the heap, as a constant: the law's row is shown by itself, so that only the constant is laid -/
theorem frag (h : PySem.Challenge.rw_wu0023_01.row.Holds) : PySem.Challenge.rw_wu0023_01.row.Holds := by k_head
end
@[reducible] def hookAs : List Addr := [2, 3, 15, 17, 18, 20, 21, 22, 24, 25, 27, 28, 29, 31, 32, 34, 35, 36, 38, 39, 41, 42, 43, 46, 51, 52, 53, 55, 56, 58, 59, 60, 62, 63, 65, 66, 67, 68, 70, 71, 73, 74, 75, 76, 78, 79, 81, 82, 83, 85, 86, 88, 89, 90, 92, 93, 95, 96, 97, 98, 100, 101, 103, 104, 105, 107, 108, 110, 111, 112, 113, 115, 116, 118, 119, 120, 121, 122, 123, 124, 127, 129, 130, 132, 133, 134, 136, 137, 139, 140, 141, 143, 144, 146, 147, 148, 150, 151, 153, 154, 155, 157, 158, 160, 161, 162, 164, 165, 167, 168, 169, 172, 173]
section
local macro_rules | `(tactic| o_law) => `(tactic| (refine holds_law ?hsaid fun said => ?_; (case hsaid => ((unfold OpenLaw.wellSaid OpenRow.wellSaid OpenRow.partSaid looksOpen; repeat' (with_reducible refine look_both ?_ ?_)) <;> decide +kernel))))
local macro_rules | `(tactic| k_head) => `(tactic| o_head (kmHook Mine.frag.heap_1 Mine.hookAs (fun _ => by kernel_rfl) [84, 91]))
set_option synthInstance.maxSize 1 in
open_top hd for PySem.Challenge.rw_wu0023_01
end
end Mine
end
section
open PySem PySem.W PyProof.Rows PySem.Calls
set_option maxRecDepth 100000
set_option maxHeartbeats 8000000
namespace Mine
/-- what the law's walk is to show: it gives back True, turns nothing old but the tables laid aside, and leaves the system as it was -/
noncomputable def EndsTrue (s₁ : Shared) (g : Heap) (tabs : List (Addr × Addr)) (r : Result) (s' : Shared) : Prop :=
  r = .ok (.ret (.bool true)) ∧ (∀ b o, g.get? b = some o → s'.heap.get? b = some o) ∧ s'.os = s₁.os ∧ AllBare s'.gens ∧ GrownAll tabs s'.heap
theorem postB {M : Model} {A : Around} {cd : Code} {s s₁ : Shared} {cw : ClaimW} {cl : Str → Option Addr} {mean : ExcName → Option Value} {args : List WData} {tabs : List (Addr × Addr)} (hT : TabsAt tabs s₁.heap)
    (hr : ∀ a x, cw.raises a x = false) (hp : cw.post args (.bool true) args = true)
    (h : codeAny M A cd (EndsTrue s₁ (ghostOf s₁.heap tabs) tabs) s) : codeAny M A cd (GoodWG cw cl mean args s₁) s :=
  codeAny_mono h fun r s' ⟨hc, hk, hos, hg, hgr⟩ => by
    have keep : ∀ b o, b ∉ tabs.map (·.2) → s₁.heap.get? b = some o → s'.heap.get? b = some o := fun b o hb e => hk b o (ghost_ne e hb)
    have grown : ∀ b o, b ∈ tabs.map (·.2) → s₁.heap.get? b = some o → isCodeTable s₁.heap b ∧ o = tabObj #[] ∧ ∃ ps, s'.heap.get? b = some (tabObj ps) := fun b o hb e => by
      obtain ⟨q, hq, rfl⟩ := List.mem_map.mp hb
      have e2 := (hT q hq).2
      rw [e] at e2
      exact ⟨((hT q hq).1.tab (hT q hq).2).isCodeTable, Option.some.inj e2, hgr.get q hq⟩
    refine ⟨.inl ⟨.bool true, .bool true, [], hc, fun c => hr _ _, .bool _, hp, fun _ => ⟨List.nodup_nil, fun a ha => absurd ha List.not_mem_nil⟩⟩, ⟨fun b o e => ?_, fun b o e => ?_⟩, hos, hg⟩
    · by_cases hb : b ∈ tabs.map (·.2)
      · obtain ⟨ht, rfl, ps, hP⟩ := grown b o hb e
        exact .inr (.inl ⟨ht, rfl, #[], ps, rfl, by rw [Array.empty_append]; exact hP⟩)
      · exact .inl (keep b o hb e)
    · by_cases hb : b ∈ tabs.map (·.2)
      · obtain ⟨_, _, ps, hP⟩ := grown b o hb e
        exact ⟨_, hP⟩
      · exact ⟨o, keep b o hb e⟩
end Mine

end
section
open PySem PySem.W PyProof.Rows PySem.Calls
set_option maxRecDepth 100000
set_option maxHeartbeats 8000000
namespace Mine

noncomputable section
variable {prog : Program} {w : World} {A : Around} {s : Shared} {K : Frag} {p : Program} {loose : List Str} {mean : ExcName → Option Value} {mg mb : Str → Option Value}
/-- what is hidden: the objects that the callee may turn -/
theorem enterH {R : Result → Shared → Prop} {name qual : Str} {params : Arguments} {body : List Stmt} {scope : Scope} {dV kV doc pm cdv ct oc : Value} {an od : Option Addr} {osl : Array (Option Value)} {f : Addr} {args : Args} {binds : List (Str × Value)}
    (hid : List Addr) (h₀ : Heap) (hk : ∀ b o, h₀.get? b = some o → s.heap.get? b = some o) (hn : ∀ b ∈ hid, h₀.get? b = none) (X₀ : K.In h₀) (T : Top p loose mean mg mb h₀)
    (ho : K.lookup f = some ⟨oc, od, .func (fnOf name qual params body scope dV kV doc pm an cdv ct), osl⟩) (hcd : codeIn K cdv qual = true) (hroom : A.depth < recursionLimit)
    (hbind : BindsTo s (fnOf name qual params body scope dV kV doc pm an cdv ct) args binds) (hloc : ∀ y ∈ binds, scope.names.lookup y.1 = some .local)
    (h : ∀ g h₁ L', (∀ b o, g.get? b = some o → s.heap.get? b = some o) → (∀ b o, s.heap.get? b = some o → b ∉ hid → g.get? b = some o) → (∀ b ∈ hid, g.get? b = none) → s.heap.objs.size = L' →
      (∀ b o, s.heap.get? b = some o → h₁.get? b = some o) → Fr g L' h₁ (fun y => binds.reverse.lookup y) → K.In g → Top p loose mean mg mb g →
      wpAny (model prog w) (A.deeper (envOf qual scope L' f cdv)) (execs body (envOf qual scope L' f cdv))
        (fun fl s' => R (.ok (.ret (match fl with | .ret v => v | _ => .none))) s') (fun _ _ => False)
        { s with heap := h₁, toks := s.toks + binds.length })
    (hco : scope.isCoroutine = false) (hgen : scope.isGenerator = false) (hkd : scope.kind = .function)
    (hcell : ∀ x ∈ scope.names, x.2 ≠ .cell) : codeAny (model prog w) A (.call (.ref f) args) R s := by
  refine codeAny_call_def (fd := fnX name qual params body scope [] dV kV doc pm an cdv ct) (body := body) (binds := binds) hroom (hk _ _ (X₀ _ _ ho)) rfl (T.nolimit.keeps hk) ((codeRec_of X₀ hcd).keeps hk) rfl hbind hcell hloc (fun h₁ hns hk₁ => ?_) hco hgen hkd
  have st : h₀.StaysIn (hideAll s.heap hid) := fun b o e => hideAll_get _ (hk b o e) fun q => by rw [hn b q] at e; cases e
  refine wpAny_mono (h (hideAll s.heap hid) h₁ _ (fun b o e => of_hideAll _ e) (fun b o e n => hideAll_get _ e n) (fun b hb => hideAll_none _ hb) rfl hk₁ ⟨hns, fun b o e => hk₁ b o (of_hideAll _ e), Nat.le_of_eq (hideAll_size _ _)⟩ (X₀.keeps st) (T.keeps st)) (fun _ _ x => x) fun _ _ x => x.elim
end
end Mine

end
section
open PySem PySem.W PyProof.Rows PySem.Calls
set_option maxRecDepth 100000
set_option maxHeartbeats 8000000
set_option pp.deepTerms false
set_option pp.maxSteps 3000
namespace Mine

theorem ret_f {Q : Value → Shared → Prop} {x y : UInt64} {t : Tok} {s' : Shared} (e : y = x) (h : Q (.float y t) s') : Q (.float x t) s' := e ▸ h
theorem keepsOf {s g h : Heap} {L : Addr} {m : Str → Option Value} (F : Fr g L h m) (hg2 : ∀ b o, s.get? b = some o → b ∉ ([] : List Addr) → g.get? b = some o) : ∀ b o, s.get? b = some o → h.get? b = some o :=
  fun b o e => F.keep b o (hg2 b o e (fun q => nomatch q))
noncomputable def vP (m1 m2 hue : UInt64) : UInt64 :=
  let h := (Float64.divmod hue 4607182418800017408).2
  if (Float64.cmp h 4595172819793696085 == some Ordering.lt) = true then Float64.add m1 (Float64.mul (Float64.mul (Float64.sub m2 m1) h) 4618441417868443648)
  else if (Float64.cmp h 4602678819172646912 == some Ordering.lt) = true then m2
  else if (Float64.cmp h 4604180019048437077 == some Ordering.lt) = true then Float64.add m1 (Float64.mul (Float64.mul (Float64.sub m2 m1) (Float64.sub 4604180019048437077 h)) 4618441417868443648)
  else m1

theorem c_v : ∀ (w : World) (p : Program) (loose : List Str) (mean : ExcName → Option Value) (mg mb : Str → Option Value) (A : Around) (s : Shared) (Q : Value → Shared → Prop) (E : Value → Shared → Prop) (m1 m2 hue : UInt64) (t1 t2 t3 : Tok),
   (Mine.frag.heap_1 w.params).In s.heap → Top p loose mean mg mb s.heap → A.handled = none → A.depth + 2 < recursionLimit → A.units + 4 * 2 < cLine →
   (∀ t h' tk', (∀ b o, s.heap.get? b = some o → h'.get? b = some o) → Q (.float (vP m1 m2 hue) t) {s with heap := h', toks := tk'}) →
   wpAny (model PySem.Challenge.rw_wu0023_01.row.prog w) A (PySem.call (.ref 42) [.float m1 t1, .float m2 t2, .float hue t3]) Q E s := by
  k_fill
  intro w p loose mean mg mb A s Q E m1 m2 hue t1 t2 t3 X T hA0 hA hu hret
  obtain ⟨hd, dp, fr, gd, un⟩ := A
  dsimp only at hA0 hA hu
  subst hA0
  refine wpAny_call ?_
  refine' enterH [] s.heap (fun _ _ e => e) (fun _ h => nomatch h) X T ?k6 ?k7 (by dsimp only; omega) ?k9 ?kB ?_ ?c2 ?c3 ?c4 ?c5
  case k6 => k_is
  case k7 => k_is
  case k9 => exact BindsTo.of_eq rfl
  case c5 => decide
  case kB => exact locs rfl
  case c2 => exact rfl
  case c3 => exact rfl
  case c4 => exact rfl
  intro g h₁ L' hg1 hg2 hg3 hL hk F X' T'
  dsimp only
  have N : News g L' h₁ [] := News.nil
  k_steps
  all_goals ((try dsimp only); (with_reducible rename Fr _ _ _ _ => F'); refine ret_f ?_ (hret _ _ _ (keepsOf F' hg2)); (try dsimp only [vP]); simp only [*, if_true, Bool.false_eq_true, if_false])

local macro_rules | `(tactic| walk_at "call ref") => `(tactic| (k_here; (with_reducible show wpAny _ _ (PySem.call (Value.ref 42) _) _ _ _); (with_reducible rename Fr _ _ _ _ => cF'); (with_reducible rename News _ _ _ _ => cN'); (with_reducible rename Frag.In _ _ => cX'); (with_reducible rename Top _ _ _ _ _ _ => cT'); (refine' c_v _ _ _ _ _ _ _ _ _ _ _ _ _ _ _ _ (Frag.In.keeps cX' (Fr.keep cF')) (Top.keeps cT' (Fr.keep cF')) rfl ?kd ?ku ?_); (case kd => (simp only [depth_under_make, depth_under_kw, depth_in1, depth_deeper]; omega)); (case ku => (simp only [units_in1, units_deeper]; omega)); (intro t' h' tk' hk'; have F' := Fr.keeps cF' hk'; have N' := News.grown cN' hk'; clear hk' cF' cN'); (try dsimp only); walk_say "CONTRACT v"))

noncomputable def tup3 (x y z : UInt64) (t1 t2 t3 : Tok) : Obj := { cls := .type "tuple", data := .seq #[.float x t1, .float y t2, .float z t3] }
theorem freshOf {s g : Heap} {a : Addr} (hg2 : ∀ b o, s.get? b = some o → b ∉ ([] : List Addr) → g.get? b = some o) (h : g.get? a = none) : s.get? a = none := by
  cases q : s.get? a with
  | none => rfl
  | some o => rw [hg2 a o q (fun h => nomatch h)] at h; cases h
noncomputable def hlsP (h l s : UInt64) : UInt64 × UInt64 × UInt64 :=
  if (Float64.cmp s 0 == some Ordering.eq) = true then (l, l, l) else
  let m2 := if (Float64.cmp l 4602678819172646912 == some Ordering.lt || Float64.cmp l 4602678819172646912 == some Ordering.eq) = true then Float64.mul l (Float64.add 4607182418800017408 s) else Float64.sub (Float64.add l s) (Float64.mul l s)
  let m1 := Float64.sub (Float64.mul 4611686018427387904 l) m2
  (vP m1 m2 (Float64.add h 4599676419421066581), vP m1 m2 h, vP m1 m2 (Float64.sub h 4599676419421066581))
theorem ret_t {Q : Value → Shared → Prop} {s : Shared} {h' : Heap} {tk' : Nat} {p : UInt64 × UInt64 × UInt64} {x y z : UInt64} {t1 t2 t3 : Tok} {a : Addr}
   (hret : ∀ a h' tk' t1 t2 t3, (∀ b o, s.heap.get? b = some o → h'.get? b = some o) → s.heap.get? a = none → h'.get? a = some (tup3 p.1 p.2.1 p.2.2 t1 t2 t3) → Q (.ref a) {s with heap := h', toks := tk'})
   (e : p = (x, y, z)) (hk : ∀ b o, s.heap.get? b = some o → h'.get? b = some o) (hf : s.heap.get? a = none) (ha : h'.get? a = some (tup3 x y z t1 t2 t3)) : Q (.ref a) {s with heap := h', toks := tk'} := by
  subst e
  exact hret a h' tk' t1 t2 t3 hk hf ha

theorem c_hls : ∀ (w : World) (p : Program) (loose : List Str) (mean : ExcName → Option Value) (mg mb : Str → Option Value) (A : Around) (s : Shared) (Q : Value → Shared → Prop) (E : Value → Shared → Prop) (h l sa : UInt64) (t1 t2 t3 : Tok),
   (Mine.frag.heap_1 w.params).In s.heap → Top p loose mean mg mb s.heap → A.handled = none → A.depth + 4 < recursionLimit → A.units + 4 * 4 < cLine →
   (∀ a h' tk' t1 t2 t3, (∀ b o, s.heap.get? b = some o → h'.get? b = some o) → s.heap.get? a = none → h'.get? a = some (tup3 (hlsP h l sa).1 (hlsP h l sa).2.1 (hlsP h l sa).2.2 t1 t2 t3) → Q (.ref a) {s with heap := h', toks := tk'}) →
   wpAny (model PySem.Challenge.rw_wu0023_01.row.prog w) A (PySem.call (.ref 35) [.float h t1, .float l t2, .float sa t3]) Q E s := by
  k_fill
  intro w p loose mean mg mb A s Q E h l sa t1 t2 t3 X T hA0 hA hu hret
  obtain ⟨hd, dp, fr, gd, un⟩ := A
  dsimp only at hA0 hA hu
  subst hA0
  refine wpAny_call ?_
  refine' enterH [] s.heap (fun _ _ e => e) (fun _ h => nomatch h) X T ?k6 ?k7 (by dsimp only; omega) ?k9 ?kB ?_ ?c2 ?c3 ?c4 ?c5
  case k6 => k_is
  case k7 => k_is
  case k9 => exact BindsTo.of_eq rfl
  case c5 => decide
  case kB => exact locs rfl
  case c2 => exact rfl
  case c3 => exact rfl
  case c4 => exact rfl
  intro g h₁ L' hg1 hg2 hg3 hL hk F X' T'
  dsimp only
  have N : News g L' h₁ [] := News.nil
  k_steps
  all_goals ((try dsimp only); (with_reducible rename Fr _ _ _ _ => F'); (with_reducible rename News _ _ _ _ => N'); refine ret_t hret ?_ (keepsOf F' hg2) (freshOf hg2 (N' _ (List.Mem.head _)).2.2) (N' _ (List.Mem.head _)).1; (try dsimp only [hlsP]); simp only [*, if_true, Bool.false_eq_true, if_false])

noncomputable def fmax2 (x y : UInt64) : UInt64 := if (Float64.cmp x y == some Ordering.lt) = true then y else x
noncomputable def fmin2 (x y : UInt64) : UInt64 := if (Float64.cmp y x == some Ordering.lt) = true then y else x
section
open PySem.Flt
variable {prog : Program} {w : World} {A : Around} {E : Value → Shared → Prop} {s : Shared} {Q : Value → Shared → Prop} {a b c : UInt64} {t u x : Tok}
theorem max3_f (hh : A.handled = none)
    (h : ∀ h' tk v, (∀ c o, s.heap.get? c = some o → h'.get? c = some o) → Q (.float (fmax2 (fmax2 a b) c) v) { s with heap := h', toks := tk }) :
    wpAny (model prog w) A (PySem.call (.builtin "max") [.float a t, .float b u, .float c x]) Q E s := by
  have hT : (s.heap.push { cls := .type "tuple", data := .seq #[.float a t, .float b u, .float c x] }).IsTuple s.heap.objs.size #[.float a t, .float b u, .float c x] := ⟨_, Heap.get?_push_size _ rfl, rfl, 0, rfl⟩
  refine call_max_three (prog := prog) (w := w) (wpAny_pyIter_tuple hT ?_)
  have hsz : (s.heap.push { cls := .type "tuple", data := .seq #[.float a t, .float b u, .float c x] }).objs.size = s.heap.objs.size + 1 := Heap.size_push ..
  refine ⟨_, [_, s.heap.objs.size], [_], _, _, _, _, rfl, Walks.tuple (prog := prog) (w := w) (A := A.in1) hh _ s.heap.objs.size (by rw [hsz]; exact Nat.ne_of_lt (Nat.lt_succ_self _)) #[.float a t, .float b u, .float c x],
    ⟨⟨_, Heap.get?_push_size _ rfl, rfl, rfl⟩, hT.push _⟩, fun c hc => ?_, by simp, cmpOf_gt #[.float a t, .float b u, .float c x] (by intro v hv; simp at hv; rcases hv with rfl | rfl | rfl <;> exact NumV.float _ _), fun v h' tk hP hk => ?_⟩
  · show c < ((s.heap.push _).push _).objs.size
    rw [Heap.size_push, hsz]
    rcases List.mem_cons.mp hc with rfl | hc
    · rw [hsz]; exact Nat.lt_succ_self _
    · rcases List.mem_cons.mp hc with rfl | hc
      · exact Nat.lt_succ_of_lt (Nat.lt_succ_self _)
      · cases hc
  · have hold : ∀ c o, s.heap.get? c = some o → h'.get? c = some o := fun c o e => by
      refine hk c o (fun hm => ?_) (Heap.get?_push_of_some _ (Heap.get?_push_of_some _ e))
      rcases List.mem_cons.mp hm with e1 | hm
      · have := Heap.lt_size e; rw [e1, hsz] at this; exact Nat.lt_irrefl _ (Nat.lt_of_succ_lt this)
      · cases hm
    have hv : ∃ k, v = .float (fmax2 (fmax2 a b) c) k := by
      unfold fmax2
      cases h1 : (Float64.cmp a b == some Ordering.lt) <;> cases h2 : (Float64.cmp a c == some Ordering.lt) <;> cases h3 : (Float64.cmp b c == some Ordering.lt) <;>
        simp [argBest, ltV, h1, h2, h3] at hP <;> (subst hP; simp [h1, h2, h3])
    obtain ⟨k, rfl⟩ := hv
    exact h h' tk k hold
theorem min3_f (hh : A.handled = none)
    (h : ∀ h' tk v, (∀ c o, s.heap.get? c = some o → h'.get? c = some o) → Q (.float (fmin2 (fmin2 a b) c) v) { s with heap := h', toks := tk }) :
    wpAny (model prog w) A (PySem.call (.builtin "min") [.float a t, .float b u, .float c x]) Q E s := by
  have hT : (s.heap.push { cls := .type "tuple", data := .seq #[.float a t, .float b u, .float c x] }).IsTuple s.heap.objs.size #[.float a t, .float b u, .float c x] := ⟨_, Heap.get?_push_size _ rfl, rfl, 0, rfl⟩
  refine call_min_three (prog := prog) (w := w) (wpAny_pyIter_tuple hT ?_)
  have hsz : (s.heap.push { cls := .type "tuple", data := .seq #[.float a t, .float b u, .float c x] }).objs.size = s.heap.objs.size + 1 := Heap.size_push ..
  refine ⟨_, [_, s.heap.objs.size], [_], _, _, _, _, rfl, Walks.tuple (prog := prog) (w := w) (A := A.in1) hh _ s.heap.objs.size (by rw [hsz]; exact Nat.ne_of_lt (Nat.lt_succ_self _)) #[.float a t, .float b u, .float c x],
    ⟨⟨_, Heap.get?_push_size _ rfl, rfl, rfl⟩, hT.push _⟩, fun c hc => ?_, by simp, cmpOf_lt #[.float a t, .float b u, .float c x] (by intro v hv; simp at hv; rcases hv with rfl | rfl | rfl <;> exact NumV.float _ _), fun v h' tk hP hk => ?_⟩
  · show c < ((s.heap.push _).push _).objs.size
    rw [Heap.size_push, hsz]
    rcases List.mem_cons.mp hc with rfl | hc
    · rw [hsz]; exact Nat.lt_succ_self _
    · rcases List.mem_cons.mp hc with rfl | hc
      · exact Nat.lt_succ_of_lt (Nat.lt_succ_self _)
      · cases hc
  · have hold : ∀ c o, s.heap.get? c = some o → h'.get? c = some o := fun c o e => by
      refine hk c o (fun hm => ?_) (Heap.get?_push_of_some _ (Heap.get?_push_of_some _ e))
      rcases List.mem_cons.mp hm with e1 | hm
      · have := Heap.lt_size e; rw [e1, hsz] at this; exact Nat.lt_irrefl _ (Nat.lt_of_succ_lt this)
      · cases hm
    have hv : ∃ k, v = .float (fmin2 (fmin2 a b) c) k := by
      unfold fmin2
      cases h1 : (Float64.cmp b a == some Ordering.lt) <;> cases h2 : (Float64.cmp c a == some Ordering.lt) <;> cases h3 : (Float64.cmp c b == some Ordering.lt) <;>
        simp [argBest, ltV, h1, h2, h3] at hP <;> (subst hP; simp [h1, h2, h3])
    obtain ⟨k, rfl⟩ := hv
    exact h h' tk k hold
end
local macro_rules | `(tactic| walk_at "call builtin:max") => `(tactic| ((with_reducible show wpAny _ _ (PySem.call _ [Value.float _ _, Value.float _ _, Value.float _ _]) _ _ _); (with_reducible rename Fr _ _ _ _ => cF'); (with_reducible rename News _ _ _ _ => cN'); (refine max3_f rfl ?_); intro h' tk' v' hk'; have F' := Fr.keeps cF' hk'; have N' := News.grown cN' hk'; clear hk' cF' cN'; (try dsimp only)))
local macro_rules | `(tactic| walk_at "call builtin:min") => `(tactic| ((with_reducible show wpAny _ _ (PySem.call _ [Value.float _ _, Value.float _ _, Value.float _ _]) _ _ _); (with_reducible rename Fr _ _ _ _ => cF'); (with_reducible rename News _ _ _ _ => cN'); (refine min3_f rfl ?_); intro h' tk' v' hk'; have F' := Fr.keeps cF' hk'; have N' := News.grown cN' hk'; clear hk' cF' cN'; (try dsimp only)))

theorem div_ok {prog : Program} {w : World} {A : Around} {E : Value → Shared → Prop} {s : Shared} {Q : Value → Shared → Prop} {a b : UInt64} {t u : Tok} (hA : A.handled = none) (hz : ¬ Float64.isZero b = true)
    (h : Q (.float (Float64.div a b) s.toks) { s with toks := s.toks + 1 }) : wpAny (model prog w) A (binaryOp .Div (.float a t) (.float b u)) Q E s :=
  truediv_float_or hA (fun q => absurd q hz) (fun _ => h)
local macro_rules | `(tactic| walk_at "binaryOp Div float float") => `(tactic| ((refine div_ok rfl ?_ ?_); focus (first | assumption | decide +kernel); (try dsimp only)))
noncomputable def rgbOk (r g b : UInt64) : Bool :=
  let maxc := fmax2 (fmax2 r g) b
  let minc := fmin2 (fmin2 r g) b
  !Float64.isZero (Float64.add maxc minc) && !Float64.isZero (Float64.sub (Float64.sub 4611686018427387904 maxc) minc) && !Float64.isZero (Float64.sub maxc minc)
theorem rgbOk_1 {r g b : UInt64} (h : rgbOk r g b = true) : ¬ Float64.isZero (Float64.add (fmax2 (fmax2 r g) b) (fmin2 (fmin2 r g) b)) = true := by
  unfold rgbOk at h; simp only [Bool.and_eq_true, Bool.not_eq_true'] at h; rw [h.1.1]; exact Bool.false_ne_true
theorem rgbOk_2 {r g b : UInt64} (h : rgbOk r g b = true) : ¬ Float64.isZero (Float64.sub (Float64.sub 4611686018427387904 (fmax2 (fmax2 r g) b)) (fmin2 (fmin2 r g) b)) = true := by
  unfold rgbOk at h; simp only [Bool.and_eq_true, Bool.not_eq_true'] at h; rw [h.1.2]; exact Bool.false_ne_true
theorem rgbOk_3 {r g b : UInt64} (h : rgbOk r g b = true) : ¬ Float64.isZero (Float64.sub (fmax2 (fmax2 r g) b) (fmin2 (fmin2 r g) b)) = true := by
  unfold rgbOk at h; simp only [Bool.and_eq_true, Bool.not_eq_true'] at h; rw [h.2]; exact Bool.false_ne_true

noncomputable def rgbP (r g b : UInt64) : UInt64 × UInt64 × UInt64 :=
  let maxc := fmax2 (fmax2 r g) b
  let minc := fmin2 (fmin2 r g) b
  let sumc := Float64.add maxc minc
  let rangec := Float64.sub maxc minc
  let l := Float64.div sumc 4611686018427387904
  if (Float64.cmp minc maxc == some Ordering.eq) = true then (0, l, 0) else
  let sa := if (Float64.cmp l 4602678819172646912 == some Ordering.lt || Float64.cmp l 4602678819172646912 == some Ordering.eq) = true then Float64.div rangec sumc
    else Float64.div rangec (Float64.sub (Float64.sub 4611686018427387904 maxc) minc)
  let rc := Float64.div (Float64.sub maxc r) rangec
  let gc := Float64.div (Float64.sub maxc g) rangec
  let bc := Float64.div (Float64.sub maxc b) rangec
  let h := if (Float64.cmp r maxc == some Ordering.eq) = true then Float64.sub bc gc
    else if (Float64.cmp g maxc == some Ordering.eq) = true then Float64.sub (Float64.add 4611686018427387904 rc) bc
    else Float64.sub (Float64.add 4616189618054758400 gc) rc
  ((Float64.divmod (Float64.div h 4618441417868443648) 4607182418800017408).2, l, sa)

theorem c_rgb : ∀ (w : World) (p : Program) (loose : List Str) (mean : ExcName → Option Value) (mg mb : Str → Option Value) (A : Around) (s : Shared) (Q : Value → Shared → Prop) (E : Value → Shared → Prop) (r gr b : UInt64) (t1 t2 t3 : Tok),
   (Mine.frag.heap_1 w.params).In s.heap → Top p loose mean mg mb s.heap → A.handled = none → A.depth + 4 < recursionLimit → A.units + 4 * 4 < cLine → rgbOk r gr b = true →
   (∀ a h' tk' t1 t2 t3, (∀ b o, s.heap.get? b = some o → h'.get? b = some o) → s.heap.get? a = none → h'.get? a = some (tup3 (rgbP r gr b).1 (rgbP r gr b).2.1 (rgbP r gr b).2.2 t1 t2 t3) → Q (.ref a) {s with heap := h', toks := tk'}) →
   wpAny (model PySem.Challenge.rw_wu0023_01.row.prog w) A (PySem.call (.ref 28) [.float r t1, .float gr t2, .float b t3]) Q E s := by
  k_fill
  intro w p loose mean mg mb A s Q E r gr b t1 t2 t3 X T hA0 hA hu hz hret
  obtain ⟨hd, dp, fr, gd, un⟩ := A
  dsimp only at hA0 hA hu
  subst hA0
  refine wpAny_call ?_
  refine' enterH [] s.heap (fun _ _ e => e) (fun _ h => nomatch h) X T ?k6 ?k7 (by dsimp only; omega) ?k9 ?kB ?_ ?c2 ?c3 ?c4 ?c5
  case k6 => k_is
  case k7 => k_is
  case k9 => exact BindsTo.of_eq rfl
  case c5 => decide
  case kB => exact locs rfl
  case c2 => exact rfl
  case c3 => exact rfl
  case c4 => exact rfl
  intro g h₁ L' hg1 hg2 hg3 hL hk F X' T'
  dsimp only
  have N : News g L' h₁ [] := News.nil
  have hz1 := rgbOk_1 hz
  have hz2 := rgbOk_2 hz
  have hz3 := rgbOk_3 hz
  clear hz
  k_steps
  all_goals ((try dsimp only); (with_reducible rename Fr _ _ _ _ => F'); (with_reducible rename News _ _ _ _ => N'); refine ret_t hret ?_ (keepsOf F' hg2) (freshOf hg2 (N' _ (List.Mem.head _)).2.2) (N' _ (List.Mem.head _)).1; (try dsimp only [rgbP]); simp only [*, if_true, Bool.false_eq_true, if_false])
end Mine

end
section
open PySem PySem.W PyProof.Rows PySem.Calls
set_option maxRecDepth 100000
set_option maxHeartbeats 8000000
set_option pp.deepTerms false
set_option pp.maxSteps 3000
namespace Mine
abbrev pileO (dx : Addr) (vs : List Value) (ep : Nat) : Obj := { cls := .ref 122, dict := some dx, data := .seq vs.toArray ep }
theorem sub_pile (P : Params) : subIn (Mine.frag.heap_1 P) (.ref 122) (.type "list") = some true := by kernel_rfl
section
variable {prog : Program} {w : World} {M : Model} {A : Around} {E : Value → Shared → Prop} {s : Shared} {h : Heap} {x dx : Addr} {vs : List Value} {ep : Nat}
theorem check_m {i owner n : String} {self : Value} {rest : List Value} {Q : Unit → Shared → Prop}
    (hk : builtinKind i = some .slot ∨ builtinKind i = some .method) (hs : splitId i = some (owner, n)) (hi : Looks M s.heap (isInstance self (.type owner)) true) (ha : argsOk i ⟨self :: rest, []⟩) (q : Q () s) :
    wpAny M A (checkBuiltinCall i ⟨self :: rest, []⟩) Q E s := by
  rcases hk with hk | hk <;>
  · simp only [checkBuiltinCall, hk, hs]
    refine wpAny_bind (hi.here ?_)
    simp only [Bool.not_true, Bool.false_eq_true, if_false]
    cases hsig : Manifest.signature? i with
    | none => exact wpAny_pure q
    | some sig =>
      simp only [argsOk, hsig] at ha
      have h2 : Bind.checkArgs i sig ⟨self :: rest, []⟩ = pure () := ha
      show wpAny M A (Bind.checkArgs i sig ⟨self :: rest, []⟩) Q E s
      rw [h2]; exact wpAny_pure q
theorem inst_pile (X : (Mine.frag.heap_1 w.params).In h) (hx : h.get? x = some (pileO dx vs ep)) : Looks M h (isInstance (.ref x) (.type "list")) true := by
  unfold isInstance
  have t : Looks M h (typeOf (.ref x)) (.ref 122) := (Looks.ld hx).andThen .now
  exact t.andThen (looks_subIn X (sub_pile _))
theorem call_lb {id n : String} {b : Builtin} {rest : List Value} {Q : Value → Shared → Prop} (X : (Mine.frag.heap_1 w.params).In s.heap) (hx : s.heap.get? x = some (pileO dx vs ep))
    (hk : builtinKind id = some .slot ∨ builtinKind id = some .method) (hs : splitId id = some ("list", n)) (hq : plainId id = true) (hb : entryFor table id = some b) (ha : argsOk id ⟨.ref x :: rest, []⟩)
    (hc : wpAny (model prog w) A.in1 (b ⟨.ref x :: rest, []⟩) (fun fin s' => ∃ v, fin = .done (.ret v) ∧ Q v s') E s) :
    wpAny (model prog w) A (PySem.call (.builtin id) (.ref x :: rest)) Q E s := by
  refine wpAny_call (codeAny_call_builtin hq hb (check_m hk hs (inst_pile X hx) ha (wpAny_mono hc (fun fin s' h' => ?_) fun _ _ h' => h')))
  obtain ⟨v, rfl, hv⟩ := h'; exact hv
theorem append_body {v : Value} {Q : Fin → Shared → Prop} (hx : s.heap.get? x = some (pileO dx vs ep)) (hsz : vs.length ≤ sizeLine)
    (h : ∀ h', Heap.SameBut x s.heap h' → h'.get? x = some (pileO dx (vs ++ [v]) (ep + 1)) → Q (.done (.ret .none)) { s with heap := h' }) :
    wpAny (model prog w) A (Builtin.«list.append» ⟨[.ref x, v], []⟩) Q E s := by
  show wpAny _ _ (updateSeq x (·.push v) >>= fun _ => ret .none) _ _ s
  refine wpAny_bind ?_
  have hz : vs.toArray.size ≤ sizeLine := by simpa using hsz
  have e : Obj.mapSeq (·.push v) (pileO dx vs ep) = pileO dx (vs ++ [v]) (ep + 1) := by
    simp [Obj.mapSeq, pileO]
  refine wpAny_updateSeq hx rfl (hz := hz) (_hz' := by rw [Array.size_push]; omega) (wpAny_pure (h _ (Heap.SameBut.update ..) ?_))
  rw [Heap.get?_update_self _ hx (by rw [e]; rfl), e]
theorem pop_body {v : Value} {Q : Fin → Shared → Prop} (hx : s.heap.get? x = some (pileO dx (vs ++ [v]) ep)) (hsz : vs.length < sizeLine)
    (h : ∀ h', Heap.SameBut x s.heap h' → h'.get? x = some (pileO dx vs (ep + 1)) → Q (.done (.ret v)) { s with heap := h' }) :
    wpAny (model prog w) A (Builtin.«list.pop» ⟨[.ref x], []⟩) Q E s := by
  obtain ⟨hp, g, d, tk, os⟩ := s
  have hpos : 0 < (vs ++ [v]).toArray.size := by simp
  have hs1 : (vs ++ [v]).toArray.size ≤ sizeLine := by simp; omega
  have hne : ¬ (vs ++ [v]).toArray.isEmpty = true := by simp
  have hk : seqIndex? (-1) (vs ++ [v]).toArray.size = some ((vs ++ [v]).toArray.size - 1) := by
    rw [seqIndex_neg (by omega) (by omega)]; congr 1; omega
  have hy : (vs ++ [v]).toArray[(vs ++ [v]).toArray.size - 1]? = some v := by simp
  have e : Obj.mapSeq (·.eraseIdxIfInBounds ((vs ++ [v]).toArray.size - 1)) (pileO dx (vs ++ [v]) ep) = pileO dx vs (ep + 1) := by
    have h1 : (vs ++ [v]).toArray.eraseIdxIfInBounds ((vs ++ [v]).toArray.size - 1) = vs.toArray := by
      apply Array.ext'
      simp [List.eraseIdx_append_of_length_le]
    show Obj.mapSeq _ (⟨.ref 122, some dx, .seq (vs ++ [v]).toArray ep, #[]⟩ : Obj) = _
    simp only [Obj.mapSeq, h1]
    simp
  wp_walk using wpAny_loadPart' hx
  simp only [hk, hy, Option.bind_some, Option.map_some]
  have hz' : ((vs ++ [v]).toArray.eraseIdxIfInBounds ((vs ++ [v]).toArray.size - 1)).size ≤ sizeLine + 1 := Nat.le_trans (PySem.MeetsSeq.size_erased _ _) (Nat.le_succ_of_le hs1)
  wp_walk using (wpAny_updateSeq hx rfl (hz := hs1) (_hz' := hz')), wpAny_loadPart' hx
  refine h _ (Heap.SameBut.update ..) ?_
  rw [Heap.get?_update_self _ hx (by rw [e]; rfl), e]
theorem len_body {Q : Fin → Shared → Prop} (hx : s.heap.get? x = some (pileO dx vs ep))
    (h : ∀ t tk, Q (.done (.ret (.int vs.length t))) { s with toks := tk }) :
    wpAny (model prog w) A (Builtin.«list.__len__» ⟨[.ref x], []⟩) Q E s := by
  obtain ⟨hp, g, d, tk, os⟩ := s
  wp_walk using wpAny_loadPart' hx
  simpa using h tk (tk + 1)
theorem iter_body {Q : Fin → Shared → Prop} 
    (h : Q (.done (.ret (.ref s.heap.objs.size))) { s with heap := s.heap.push { cls := .type "list_iterator", data := .fields #[.ref x, rawInt 0] } }) :
    wpAny (model prog w) A (Builtin.«list.__iter__» ⟨[.ref x], []⟩) Q E s := by
  obtain ⟨hp, g, d, tk, os⟩ := s
  wp_walk using (wpAny_newObj_type)
  exact h
theorem init_body {Q : Fin → Shared → Prop} (hx : s.heap.get? x = some (pileO dx [] ep))
    (h : ∀ h', Heap.SameBut x s.heap h' → h'.get? x = some (pileO dx [] ep) → Q (.done (.ret .none)) { s with heap := h' }) :
    wpAny (model prog w) A (Builtin.«list.__init__» ⟨[.ref x], []⟩) Q E s := by
  obtain ⟨hp, g, d, tk, os⟩ := s
  have e : Obj.mapSeq (fun _ => #[]) (pileO dx [] ep) = pileO dx [] ep := by simp [Obj.mapSeq, pileO]
  wp_walk using wpAny_loadPart' hx
  refine h _ (Heap.SameBut.update ..) ?_
  rw [Heap.get?_update_self _ hx (by rw [e]; rfl), e]
theorem instPile {od : Obj} (hx : h.get? x = some (pileO dx vs ep)) (hd : h.get? dx = some od) : InstAt h x (pileO dx vs ep) 122 (some od) := ⟨hx, rfl, rfl, hd⟩
theorem method_bi {K : Frag} {C : Addr} {ox : Obj} {od : Option Obj} {name : Str} {pl : Sem Bool} {id : String} {Q : Value × List Value → Shared → Prop} (X : K.In s.heap) (I : InstAt s.heap x ox C od) {ga : String} (hga : findIn K (.ref C) "__getattribute__" = some (some (.builtin ga))) (hcan : (Manifest.canonical ga != "object.__getattribute__") = false) (hk : findIn K (.ref C) "__getattr__" = some none)
    (hf : findIn K (.ref C) name = some (some (.builtin id))) (ht : typeIn K (.builtin id) = some (.type "method_descriptor") ∨ typeIn K (.builtin id) = some (.type "wrapper_descriptor")) (hs : shadowIn od name = some false) (h : Q (.builtin id, [.ref x]) s) :
    wpAny (model prog w) A (getMethod (.ref x) name pl) Q E s := by
  unfold getMethod specialOf
  refine wpAny_bind (wpAny_bind (I.type.here ((looks_findIn X hga).here ?_)))
  dsimp only
  rw [hcan, if_neg (by decide)]
  refine wpAny_bind (wpAny_bind (I.type.here ((looks_findIn X hk).here ?_)))
  refine wpAny_bind (wpAny_bind (I.type.here ((looks_findIn X hf).here ?_)))
  have fin : wpAny (model prog w) A (do
      if let .ref a := Value.ref x then
        if let some d := (← loadPart a (some headPart)).dict then
          if (← nsGet d name).isSome then return (← getAttr (.ref x) name, [])
      rule "call.method-form"
      return (Value.builtin id, [Value.ref x])) Q E s := by
    dsimp only
    refine wpAny_bind (wpAny_loadPart I.at_ ?_)
    have hd := I.dict
    cases e : ox.dict with
    | none => exact wpAny_bind (wpAny_rule (wpAny_pure h))
    | some dx =>
      cases od with
      | none => rw [e] at hd; exact hd.elim
      | some o =>
        rw [e] at hd
        obtain ⟨r, a, b⟩ := Option.map_eq_some_iff.mp hs
        refine wpAny_bind (wpAny_bind (wpAny_loadPart hd ?_))
        rw [nsLook_of a]
        refine wpAny_pure ?_
        rw [b]
        exact wpAny_bind (wpAny_rule (wpAny_pure h))
  rcases ht with ht | ht <;>
  · refine wpAny_bind ((looks_typeIn X ht).here ?_)
    rw [if_neg (by decide +kernel)]
    exact fin
theorem method_fnG {K : Frag} {C : Addr} {ox : Obj} {od : Option Obj} {name : Str} {pl : Sem Bool} {f : Addr} {Q : Value × List Value → Shared → Prop} (X : K.In s.heap) (I : InstAt s.heap x ox C od) {ga : String} (hga : findIn K (.ref C) "__getattribute__" = some (some (.builtin ga))) (hcan : (Manifest.canonical ga != "object.__getattribute__") = false) (hk : findIn K (.ref C) "__getattr__" = some none)
    (hf : findIn K (.ref C) name = some (some (.ref f))) (ht : typeIn K (.ref f) = some (.type "function")) (hs : shadowIn od name = some false) (h : Q (.ref f, [.ref x]) s) :
    wpAny (model prog w) A (getMethod (.ref x) name pl) Q E s := by
  unfold getMethod specialOf
  refine wpAny_bind (wpAny_bind (I.type.here ((looks_findIn X hga).here ?_)))
  dsimp only
  rw [hcan, if_neg (by decide)]
  refine wpAny_bind (wpAny_bind (I.type.here ((looks_findIn X hk).here ?_)))
  refine wpAny_bind (wpAny_bind (I.type.here ((looks_findIn X hf).here (wpAny_bind ((looks_typeIn X ht).here ?_)))))
  rw [if_neg (by decide +kernel)]
  refine wpAny_bind (wpAny_loadPart I.at_ ?_)
  have hd := I.dict
  cases e : ox.dict with
  | none => exact wpAny_bind (wpAny_rule (wpAny_pure h))
  | some dx =>
    cases od with
    | none => rw [e] at hd; exact hd.elim
    | some o =>
      rw [e] at hd
      obtain ⟨r, a, b⟩ := Option.map_eq_some_iff.mp hs
      refine wpAny_bind (wpAny_bind (wpAny_loadPart hd ?_))
      rw [nsLook_of a]
      refine wpAny_pure ?_
      rw [b]
      exact wpAny_bind (wpAny_rule (wpAny_pure h))
theorem ga_pile (P : Params) : findIn (Mine.frag.heap_1 P) (.ref 122) "__getattribute__" = some (some (.builtin "list.__getattribute__")) := by kernel_rfl
theorem hook_pile (P : Params) : findIn (Mine.frag.heap_1 P) (.ref 122) "__getattr__" = some none := by kernel_rfl
theorem can_pile : (Manifest.canonical "list.__getattribute__" != "object.__getattribute__") = false := by decide +kernel
theorem args_lga (a : Value) (x : Str) (t : Tok) : argsOk "list.__getattribute__" ⟨[a, .str x t], []⟩ := by unfold argsOk; kernel_rfl
theorem attr_pile {od : Option Obj} {name : Str} {v : Value} {expr : Bool} {Q : Value → Shared → Prop} (X : (Mine.frag.heap_1 w.params).In s.heap) (I : InstAt s.heap x (pileO dx vs ep) 122 od)
    (hf : findObj (Mine.frag.heap_1 w.params) 122 od name = some (.value v)) (hh : handedIn v = true) (h : Q v { s with toks := s.toks + 1 }) :
    wpAny (model prog w) A (getAttr (.ref x) name expr) Q E s := by
  obtain ⟨hh', g, d, t, os⟩ := s
  have L0 := I.type (M := model prog w)
  have L1 := looks_findIn (M := model prog w) X (ga_pile _)
  have L2 := looks_findIn (M := model prog w) X (hook_pile _)
  have L3 := looks_find (M := model prog w) X I hf
  unfold getAttr getAttrBy
  refine wpAny_bind (wpAny_mkText (wpAny_holding (wpAny_bind (L0.at (wpAny_bind (L1.at ?_))))))
  show wpAny _ _ (getAttrByItsOwn _ _ _ _ _ _) _ _ _
  unfold getAttrByItsOwn hookBefore
  refine wpAny_bind ?_
  show wpAny _ _ (typeLookup (.ref 122) "__getattr__") _ _ _
  refine L2.at ?_
  have e : callGetattribute (.ref x) (.str name t) (.builtin "list.__getattribute__") expr = boundAndCalled (.builtin "list.__getattribute__") (.ref x) (.str name t) := by
    unfold callGetattribute
    cases expr <;> rfl
  rw [e]
  unfold boundAndCalled
  refine wpAny_bind (wpAny_attempt (wpAny_holding (wpAny_bind (wpAny_of_eq (F.slot_list_getattribute.bind _) ?_))))
  refine call_lb (n := "__getattribute__") X I.at_ (.inl (by decide +kernel)) (by decide +kernel) (by decide +kernel) F.entry_list_ga (args_lga _ _ _) ?_
  unfold Builtin.«object.__getattribute__»
  have e2 : slotArgs "__getattribute__" 1 ⟨[.ref x, .str name t], []⟩ = pure (.ref x, [.str name t]) := rfl
  refine wpAny_bind (wpAny_of_eq e2 ?_)
  refine wpAny_bind (wpAny_of_eq (show _ = pure name from rfl) ?_)
  refine wpAny_bind (L0.at (wpAny_bind (L3.at ?_)))
  refine wpAny_pure ⟨v, rfl, ?_⟩
  show wpAny _ _ (handedOut v) _ _ _
  rw [handedOut_of hh]; exact wpAny_pure h
end
end Mine

end
section
open PySem PySem.W PyProof.Rows PySem.Calls
set_option maxRecDepth 100000
set_option maxHeartbeats 8000000
set_option pp.deepTerms false
set_option pp.maxSteps 3000
namespace Mine
theorem slot_md_get : Slot "method_descriptor" "__get__" "method_descriptor.__get__" := .of (owner := "method_descriptor") (n := "__get__") (by rw [typeLookup_type, builtinLookup_eq_fast]; kernel_rfl) (by decide +kernel) (by decide +kernel) (by decide +kernel)
    (.inl (by decide +kernel)) (by rw [isSubtype_type]; kernel_rfl)
theorem slot_wd_get : Slot "wrapper_descriptor" "__get__" "wrapper_descriptor.__get__" := .of (owner := "wrapper_descriptor") (n := "__get__") (by rw [typeLookup_type, builtinLookup_eq_fast]; kernel_rfl) (by decide +kernel) (by decide +kernel) (by decide +kernel)
    (.inl (by decide +kernel)) (by rw [isSubtype_type]; kernel_rfl)
theorem entry_md_get : entryFor table "method_descriptor.__get__" = some Builtin.«method_descriptor.__get__» := entryFor_of_tree (by kernel_rfl)
theorem entry_wd_get : entryFor table "wrapper_descriptor.__get__" = some Builtin.«wrapper_descriptor.__get__» := entryFor_of_tree (by kernel_rfl)
theorem args_md_get (a b c : Value) : argsOk "method_descriptor.__get__" ⟨[a, b, c], []⟩ := by unfold argsOk; kernel_rfl
theorem args_wd_get (a b c : Value) : argsOk "wrapper_descriptor.__get__" ⟨[a, b, c], []⟩ := by unfold argsOk; kernel_rfl
abbrev boundO (ty id : String) (x : Addr) : Obj := { cls := .type ty, data := .fields #[.builtin id, .ref x] }
section
variable {prog : Program} {w : World} {M : Model} {A : Around} {E : Value → Shared → Prop} {h : Heap} {g : Array GenState} {d : Drawn} {t : Nat} {os : OsState} {x dx : Addr} {vs : List Value} {ep : Nat}
theorem mdget_pop {Q : Fin → Shared → Prop} (X : (Mine.frag.heap_1 w.params).In h) (hx : h.get? x = some (pileO dx vs ep))
    (hq : Q (.done (.ret (.ref h.objs.size))) ⟨h.push (boundO "builtin_function_or_method" "list.pop" x), g, d, t, os⟩) :
    wpAny (model prog w) A (Builtin.«method_descriptor.__get__» ⟨[.builtin "list.pop", .ref x, .ref 122], []⟩) Q E ⟨h, g, d, t, os⟩ := by
  have hi := looks_subIn (M := model prog w) X (sub_pile w.params)
  have hn : ".".intercalate ("list.pop".cutAt '.').dropLast = "list" := by decide +kernel
  have hc : Manifest.toldItsClass.contains "list.pop" = false := by decide +kernel
  unfold Builtin.«method_descriptor.__get__»
  repeat wp_step
  rw [hn]
  refine Looks.at hi ?_
  simp only [Bool.not_true, Bool.false_eq_true, if_false]
  repeat (first | (with_reducible refine wpAny_newObj_type ?_ (by size_fits)) | wp_step)
  exact hq
theorem wdget_len {Q : Fin → Shared → Prop} (X : (Mine.frag.heap_1 w.params).In h) (hx : h.get? x = some (pileO dx vs ep))
    (hq : Q (.done (.ret (.ref h.objs.size))) ⟨h.push (boundO "method-wrapper" "list.__len__" x), g, d, t, os⟩) :
    wpAny (model prog w) A (Builtin.«wrapper_descriptor.__get__» ⟨[.builtin "list.__len__", .ref x, .ref 122], []⟩) Q E ⟨h, g, d, t, os⟩ := by
  have hi := looks_subIn (M := model prog w) X (sub_pile w.params)
  have hn : ".".intercalate ("list.__len__".cutAt '.').dropLast = "list" := by decide +kernel
  unfold Builtin.«wrapper_descriptor.__get__»
  repeat wp_step
  rw [hn]
  refine Looks.at hi ?_
  simp only [Bool.not_true, Bool.false_eq_true, if_false]
  repeat (first | (with_reducible refine wpAny_newObj_type ?_ (by size_fits)) | wp_step)
  exact hq
theorem wdget_init {Q : Fin → Shared → Prop} (X : (Mine.frag.heap_1 w.params).In h) (hx : h.get? x = some (pileO dx vs ep))
    (hq : Q (.done (.ret (.ref h.objs.size))) ⟨h.push (boundO "method-wrapper" "list.__init__" x), g, d, t, os⟩) :
    wpAny (model prog w) A (Builtin.«wrapper_descriptor.__get__» ⟨[.builtin "list.__init__", .ref x, .ref 122], []⟩) Q E ⟨h, g, d, t, os⟩ := by
  have hi := looks_subIn (M := model prog w) X (sub_pile w.params)
  have hn : ".".intercalate ("list.__init__".cutAt '.').dropLast = "list" := by decide +kernel
  unfold Builtin.«wrapper_descriptor.__get__»
  repeat wp_step
  rw [hn]
  refine Looks.at hi ?_
  simp only [Bool.not_true, Bool.false_eq_true, if_false]
  repeat (first | (with_reducible refine wpAny_newObj_type ?_ (by size_fits)) | wp_step)
  exact hq
end
end Mine

end
section
open PySem PySem.W PyProof.Rows PySem.Calls
set_option maxRecDepth 100000
set_option maxHeartbeats 8000000
set_option pp.deepTerms false
set_option pp.maxSteps 3000
namespace Mine
section
variable {prog : Program} {w : World} {M : Model} {A : Around} {E : Value → Shared → Prop} {h : Heap} {g : Array GenState} {d : Drawn} {t : Nat} {os : OsState} {x dx so : Addr} {vs : List Value} {ep : Nat}

noncomputable def GetBody (prog : Program) (w : World) (B : Builtin) (id ty : String) : Prop := ∀ (A : Around) (E : Value → Shared → Prop) (h : Heap) (g : Array GenState) (d : Drawn) (t : Nat) (os : OsState) (x dx : Addr) (vs : List Value) (ep : Nat) (Q : Fin → Shared → Prop),
   (Mine.frag.heap_1 w.params).In h → h.get? x = some (pileO dx vs ep) → Q (.done (.ret (.ref h.objs.size))) ⟨h.push (boundO ty id x), g, d, t, os⟩ →
   wpAny (model prog w) A (B ⟨[.builtin id, .ref x, .ref 122], []⟩) Q E ⟨h, g, d, t, os⟩

theorem super_ga_bi {T gid id ty : String} {B : Builtin} {name : Str} {tk : Tok} {Q : Fin → Shared → Prop} (slotg : Slot T "__get__" gid) (eg : entryFor table gid = some B) (ag : argsOk gid ⟨[.builtin id, .ref x, .ref 122], []⟩) (hT : typeOf (.builtin id) = pure (.type T))
    (hB : GetBody prog w B id ty) {l₀ l : List Value}
    (X : (Mine.frag.heap_1 w.params).In h) (hx : h.get? x = some (pileO dx vs ep))
    (hso : h.get? so = some (ks_superObj 122 x 122)) (hno : Looks (model prog w) h (opaqueClassAbove (.ref 122)) none)
    (hC : Looks (model prog w) h (mroOf (.ref 122)) l₀) (hl : (l₀.dropWhile (· != .ref 122)).drop 1 = l)
    (hf : alongIn (Mine.frag.heap_1 w.params) name l = some (some (.builtin id))) (hxC : x ≠ 122) (hn : (name == ("__class__" : Str)) = false)
    (hq : Q (.done (.ret (.ref h.objs.size))) ⟨h.push (boundO ty id x), g, d, t, os⟩) :
    wpAny (model prog w) A (Builtin.«super.__getattribute__» ⟨[.ref so, .str name tk], []⟩) Q E ⟨h, g, d, t, os⟩ := by
  have hlk := slotg.lookup
  have hne : (Value.ref x == Value.ref 122) = false := by simp [hxC]
  have hTf : (⟨h, g, d, t, os⟩ : Shared).TypeIs (.builtin id) T := hT
  have hdt : (ks_superObj 122 x 122).data = .fields #[.ref 122, .ref x, .ref 122] := rfl
  have f0 : (#[.ref 122, .ref x, .ref 122] : Array Value)[0]? = some (.ref 122) := rfl
  have f1 : (#[.ref 122, .ref x, .ref 122] : Array Value)[1]? = some (.ref x) := rfl
  have f2 : (#[.ref 122, .ref x, .ref 122] : Array Value)[2]? = some (.ref 122) := rfl
  unfold Builtin.«super.__getattribute__»
  repeat (first
    | (with_reducible refine wpAny_field hso hdt f0 ?_) | (with_reducible refine wpAny_field hso hdt f1 ?_) | (with_reducible refine wpAny_field hso hdt f2 ?_)
    | (with_reducible refine ks_wpAny_notOpaque hno ?_)
    | (with_reducible refine Looks.at hC ?_; rw [hl])
    | (refine ks_forIn_along X (fun _ _ => rfl) rfl ?_ hf)
    | (with_reducible refine wpAny_typeOf hTf ?_)
    | (with_reducible refine wpAny_call_entry slotg hTf eg ?_ ag)
    | (simp only [hn, hne, Bool.or_false, Bool.false_eq_true, if_false])
    | wp_step
    | dsimp only)
  all_goals (refine hB _ _ _ _ _ _ _ _ _ _ _ _ X hx ⟨_, rfl, ?_⟩; (repeat wp_step); exact hq)

theorem getMethod_super_bi {T gid id ty : String} {B : Builtin} {name : Str} {pl : Sem Bool} {Q : Value × List Value → Shared → Prop} (slotg : Slot T "__get__" gid) (eg : entryFor table gid = some B) (ag : argsOk gid ⟨[.builtin id, .ref x, .ref 122], []⟩) (hT : typeOf (.builtin id) = pure (.type T))
    (hB : GetBody prog w B id ty) {l₀ l : List Value}
    (X : (Mine.frag.heap_1 w.params).In h) (hx : h.get? x = some (pileO dx vs ep))
    (hso : h.get? so = some (ks_superObj 122 x 122)) (hno : Looks (model prog w) h (opaqueClassAbove (.ref 122)) none)
    (hC : Looks (model prog w) h (mroOf (.ref 122)) l₀) (hl : (l₀.dropWhile (· != .ref 122)).drop 1 = l)
    (hf : alongIn (Mine.frag.heap_1 w.params) name l = some (some (.builtin id))) (hxC : x ≠ 122) (hn : (name == ("__class__" : Str)) = false)
    (hq : Q (.ref h.objs.size, []) ⟨h.push (boundO ty id x), g, d, t + 1, os⟩) :
    wpAny (model prog w) A (getMethod (.ref so) name pl) Q E ⟨h, g, d, t, os⟩ := by
  have hlk := F.ks_slot_super_ga.lookup
  have hcan := F.ks_canon_super_ga
  have hT' : ∀ t', (⟨h, g, d, t', os⟩ : Shared).TypeIs (.ref so) "super" := fun _ => ⟨_, hso, rfl⟩
  unfold getMethod
  refine wpAny_bind (wpAny_specialOf (hT' _) hlk ?_)
  show wpAny _ _ (if (Manifest.canonical "super.__getattribute__" != "object.__getattribute__") = true then _ else _) _ _ _
  rw [if_pos hcan]
  unfold getAttr getAttrBy
  refine wpAny_bind (wpAny_bind (wpAny_mkText (wpAny_holding (wpAny_bind (wpAny_typeOf (hT' _) (wpAny_bind (wpAny_of_eq hlk ?_)))))))
  show wpAny _ _ (getAttrByItsOwn (.ref so) (.str name t) (.type "super") (.builtin "super.__getattribute__") true false) _ _ _
  unfold getAttrByItsOwn hookBefore callGetattribute boundAndCalled
  refine wpAny_bind (wpAny_of_eq (show (if onTheHeap (.type "super") then typeLookup (.type "super") "__getattr__" else pure none) = pure none from rfl) ?_)
  refine wpAny_bind (wpAny_attempt (wpAny_holding ?_))
  show wpAny _ _ (bindSpecial (.builtin "super.__getattribute__") (.ref so) >>= _) _ _ _
  refine wpAny_bind (wpAny_of_eq (F.ks_slot_super_ga.bind _) ?_)
  refine wpAny_mono (Q := fun v s' => v = .ref h.objs.size ∧ s' = ⟨h.push (boundO ty id x), g, d, t + 1, os⟩) (E := fun _ _ => False)
    (wpAny_call_entry F.ks_slot_super_ga (hT' _) F.ks_entry_super_ga (super_ga_bi slotg eg ag hT hB X hx hso hno hC hl hf hxC hn ⟨_, rfl, rfl, rfl⟩) (F.ks_gaArgs_super _ _)) (fun v s' hv => ?_) fun _ _ z => z.elim
  obtain ⟨rfl, rfl⟩ := hv
  exact wpAny_pure (wpAny_pure hq)
end
section
variable {prog : Program} {w : World} {A : Around} {E : Value → Shared → Prop} {s : Shared} {x dx b : Addr} {vs : List Value} {ep : Nat}
/-- a bound built-in of the list's, called on the pile -/
theorem call_bound {ty id : String} {B : Builtin} {rest : List Value} {Q : Value → Shared → Prop} (hty : ty = "builtin_function_or_method" ∨ ty = "method-wrapper") (X : (Mine.frag.heap_1 w.params).In s.heap) (hx : s.heap.get? x = some (pileO dx vs ep)) (hb : s.heap.get? b = some (boundO ty id x))
    (hq : plainId id = true) (he : entryFor table id = some B)
    (hck : ∀ (Q : Unit → Shared → Prop) (s : Shared), (Mine.frag.heap_1 w.params).In s.heap → s.heap.get? x = some (pileO dx vs ep) → Q () s → wpAny (model prog w) A.in1 (checkBoundCall id ⟨.ref x :: rest, []⟩) Q E s)
    (hc : wpAny (model prog w) A.in1 (B ⟨.ref x :: rest, []⟩) (fun fin s' => ∃ v, fin = .done (.ret v) ∧ Q v s') E s) :
    wpAny (model prog w) A (PySem.call (.ref b) rest) Q E s := by
  refine wpAny_call (codeAny_of_tree ?_)
  show wpAny _ A.in1 (callAny (.ref b) _) _ _ _
  unfold callAny
  refine wpAny_bind (wpAny_load hb ?_)
  have fin : wpAny (model prog w) A.in1 (do checkBoundCall id ⟨.ref x :: rest, []⟩; again (.builtin id ⟨.ref x :: rest, []⟩)) (fun fin s' => match fin with | .done f => (match (Except.ok f : Result) with | .ok (.ret v) => Q v s' | .ok _ => False | .error e => E e s') | .again c' => c'.quiet = true ∧ codeAny (model prog w) A c' (fun r s' => match r with | .ok (.ret v) => Q v s' | .ok _ => False | .error e => E e s') s') (fun e s' => E e s') s := by
    refine wpAny_bind (hck _ _ X hx (wpAny_pure ⟨plainId_quiet hq _, codeAny_builtin he ?_⟩))
    rw [Around.under_plainId hq _]
    refine wpAny_mono hc (fun fin s' h' => ?_) fun _ _ h' => h'
    obtain ⟨v, rfl, hv⟩ := h'
    exact hv
  rcases hty with rfl | rfl <;> exact fin
theorem check_bound_slot {id : String} {rest : List Value} {Q : Unit → Shared → Prop} (hk : builtinKind id = some .slot) (ha : argsOk id ⟨.ref x :: rest, []⟩) (h : Q () s) :
    wpAny (model prog w) A (checkBoundCall id ⟨.ref x :: rest, []⟩) Q E s := by
  unfold checkBoundCall
  cases hsig : Manifest.signature? id with
  | none => exact wpAny_pure h
  | some sig =>
    simp only [argsOk, hsig] at ha
    have h2 : Bind.checkArgs id sig ⟨.ref x :: rest, []⟩ = pure () := ha
    simp only [hk]
    have e : (Manifest.AttrKind.slot != Manifest.AttrKind.method && Manifest.AttrKind.slot != Manifest.AttrKind.classMethod) = true := by decide
    simp only [e, if_true]
    rw [h2]; exact wpAny_bind (wpAny_pure (wpAny_pure h))
theorem nomod_pile (P : Params) : subIn (Mine.frag.heap_1 P) (.ref 122) (.type "module") = some false := by kernel_rfl
theorem type_pile (P : Params) : typeIn (Mine.frag.heap_1 P) (.ref 122) = some (.type "type") := by kernel_rfl
theorem cls_pile (P : Params) : (clsIn (Mine.frag.heap_1 P) 122).map (·.qualname) = some (Str.ofString "_Accumulator") := by kernel_rfl
theorem sig_pop0 : (Manifest.signature? "list.pop").isSome = true := by kernel_rfl
theorem sig_pop1 (x : Addr) : (match Manifest.signature? "list.pop" with | some sig => Bind.checkArgs "list.pop" { sig with full := s!"{(Str.ofString "_Accumulator").toString}.{Bind.lastOf "list.pop"}" } ⟨[.ref x], []⟩ | none => pure ()) = pure () := by kernel_rfl
theorem sig_pop : ∃ sig, Manifest.signature? "list.pop" = some sig ∧ ∀ x, Bind.checkArgs "list.pop" { sig with full := s!"{(Str.ofString "_Accumulator").toString}.{Bind.lastOf "list.pop"}" } ⟨[.ref x], []⟩ = pure () := by
  obtain ⟨sig, hs⟩ := Option.isSome_iff_exists.mp sig_pop0
  refine ⟨sig, hs, fun x => ?_⟩
  have := sig_pop1 x
  rw [hs] at this
  exact this
theorem check_bound_pop {Q : Unit → Shared → Prop} (X : (Mine.frag.heap_1 w.params).In s.heap) (hx : s.heap.get? x = some (pileO dx vs ep)) (h : Q () s) :
    wpAny (model prog w) A (checkBoundCall "list.pop" ⟨[.ref x], []⟩) Q E s := by
  obtain ⟨sig, hs, hc⟩ := sig_pop
  have hk : builtinKind "list.pop" = some .method := by decide +kernel
  have hv : Manifest.varargsMethods.contains "list.pop" = false := by decide +kernel
  have hnm : Looks (model prog w) s.heap (isInstance (.ref x) (.type "module")) false := by
    unfold isInstance
    have t : Looks (model prog w) s.heap (typeOf (.ref x)) (.ref 122) := (Looks.ld hx).andThen .now
    exact t.andThen (looks_subIn X (nomod_pile _))
  have ht : Looks (model prog w) s.heap (typeOf (.ref x)) (.ref 122) := (Looks.ld hx).andThen .now
  have htt : Looks (model prog w) s.heap (typeOf (.ref 122)) (.type "type") := looks_typeIn X (type_pile _)
  obtain ⟨cd, hcd, hqn⟩ := Option.map_eq_some_iff.mp (cls_pile w.params)
  have hcl := looks_clsIn (M := model prog w) X hcd
  unfold checkBoundCall
  simp only [hs, hk]
  have e : (Manifest.AttrKind.method != Manifest.AttrKind.method && Manifest.AttrKind.method != Manifest.AttrKind.classMethod) = false := by decide
  simp only [e, Bool.false_eq_true, if_false]
  refine wpAny_bind (hnm.here ?_)
  simp only [hv, Bool.or_false, Bool.false_eq_true, if_false]
  obtain ⟨hp, g, d, tk, os⟩ := s
  refine wpAny_bind (ks_wpAny_isType_inst hx (fun c e => nomatch e) ?_)
  simp only [Bool.false_eq_true, if_false]
  refine wpAny_bind (ht.here ?_)
  dsimp only
  refine wpAny_bind (hcl.here ?_)
  refine wpAny_bind (htt.here ?_)
  simp only [beq_self_eq_true, if_true, hqn]
  rw [hc]
  exact wpAny_bind (wpAny_pure (wpAny_pure h))
end
end Mine

end
section
open PySem PySem.W PyProof.Rows PySem.Calls
set_option maxRecDepth 100000
set_option maxHeartbeats 8000000
set_option pp.deepTerms false
set_option pp.maxSteps 3000
namespace Mine
theorem ty_pop : typeOf (.builtin "list.pop") = pure (.type "method_descriptor") := by show builtinType _ = _; rw [builtinType_eq_fast]; kernel_rfl
theorem ty_len : typeOf (.builtin "list.__len__") = pure (.type "wrapper_descriptor") := by show builtinType _ = _; rw [builtinType_eq_fast]; kernel_rfl
theorem ty_init : typeOf (.builtin "list.__init__") = pure (.type "wrapper_descriptor") := by show builtinType _ = _; rw [builtinType_eq_fast]; kernel_rfl
theorem along_pop (P : Params) : ks_superIn (Mine.frag.heap_1 P) 122 122 "pop" = some (some (.builtin "list.pop")) := by kernel_rfl
theorem along_len (P : Params) : ks_superIn (Mine.frag.heap_1 P) 122 122 "__len__" = some (some (.builtin "list.__len__")) := by kernel_rfl
theorem along_init (P : Params) : ks_superIn (Mine.frag.heap_1 P) 122 122 "__init__" = some (some (.builtin "list.__init__")) := by kernel_rfl
theorem nothird (P : Params) : nsIn (Mine.frag.heap_1 P) cStatics "thirdparty.any" = some none := by kernel_rfl
section
variable {prog : Program} {w : World} {A : Around} {E : Value → Shared → Prop} {s : Shared} {x dx so b L : Addr} {h₀ : Heap} {m : Str → Option Value} {news news' : List (Addr × Obj)} {vs : List Value} {ep : Nat}
theorem super_meth {T gid id ty : String} {B : Builtin} {name : Str} {pl : Sem Bool} {Q : Value × List Value → Shared → Prop} (slotg : Slot T "__get__" gid) (eg : entryFor table gid = some B) (ag : argsOk gid ⟨[.builtin id, .ref x, .ref 122], []⟩) (hT : typeOf (.builtin id) = pure (.type T))
    (hB : GetBody prog w B id ty) (hm : ks_superIn (Mine.frag.heap_1 w.params) 122 122 name = some (some (.builtin id))) (hn : (name == ("__class__" : Str)) = false)
    (F : Fr h₀ L s.heap m) (X₀ : (Mine.frag.heap_1 w.params).In h₀) (N : News h₀ L s.heap news) (hso : (so, ks_superObj 122 x 122) ∈ news) (hx : (x, pileO dx vs ep) ∈ news)
    (h : ∀ q h', Fr h₀ L h' m → News h₀ L h' ((q, boundO ty id x) :: news) → (∀ p ∈ news, p.1 < q) → Q (.ref q, []) { s with heap := h', toks := s.toks + 1 }) : wpAny (model prog w) A (getMethod (.ref so) name pl) Q E s := by
  have X : (Mine.frag.heap_1 w.params).In s.heap := X₀.keeps F.keep
  have hxs := (N _ hx).1
  have hx122 : x ≠ 122 := by
    rintro rfl
    obtain ⟨cd, hcd, _⟩ := Option.map_eq_some_iff.mp (cls_pile w.params)
    unfold clsIn at hcd
    split at hcd
    · rename_i c d cd' sl ho
      have e := X _ _ ho
      rw [hxs] at e
      cases e
    · cases hcd
  obtain ⟨hh, g, d, t, os⟩ := s
  cases hc : clsIn (Mine.frag.heap_1 w.params) 122 with
  | none => unfold ks_superIn at hm; rw [hc] at hm; cases hm
  | some cd =>
    unfold ks_superIn at hm
    rw [hc] at hm
    refine getMethod_super_bi slotg eg ag hT hB X hxs (N _ hso).1 (looks_opaque X (nothird _)) (l₀ := cd.mro) ?_ rfl hm hx122 hn ?_
    · exact fun A Q E s k q => wpAny_bind ((looks_clsIn X hc) A _ E s k (wpAny_pure q))
    · obtain ⟨F', N', l'⟩ := ks_newsPush (s := ⟨hh, g, d, t, os⟩) (o := boundO ty id x) F N rfl (Heap.get?_push_at rfl rfl) (fun b o e => Heap.get?_push_of_some _ e)
      exact h _ _ F' N' l'
theorem sm_pop {pl : Sem Bool} {Q : Value × List Value → Shared → Prop} (F : Fr h₀ L s.heap m) (X₀ : (Mine.frag.heap_1 w.params).In h₀) (N : News h₀ L s.heap news) (hso : (so, ks_superObj 122 x 122) ∈ news) (hx : (x, pileO dx vs ep) ∈ news)
    (h : ∀ q h', Fr h₀ L h' m → News h₀ L h' ((q, boundO "builtin_function_or_method" "list.pop" x) :: news) → (∀ p ∈ news, p.1 < q) → Q (.ref q, []) { s with heap := h', toks := s.toks + 1 }) : wpAny (model prog w) A (getMethod (.ref so) (Str.ofString "pop") pl) Q E s :=
  super_meth slot_md_get entry_md_get (args_md_get _ _ _) ty_pop (fun _ _ _ _ _ _ _ _ _ _ _ _ X hx hq => mdget_pop X hx hq) (along_pop _) (by decide) F X₀ N hso hx h
theorem sm_len {pl : Sem Bool} {Q : Value × List Value → Shared → Prop} (F : Fr h₀ L s.heap m) (X₀ : (Mine.frag.heap_1 w.params).In h₀) (N : News h₀ L s.heap news) (hso : (so, ks_superObj 122 x 122) ∈ news) (hx : (x, pileO dx vs ep) ∈ news)
    (h : ∀ q h', Fr h₀ L h' m → News h₀ L h' ((q, boundO "method-wrapper" "list.__len__" x) :: news) → (∀ p ∈ news, p.1 < q) → Q (.ref q, []) { s with heap := h', toks := s.toks + 1 }) : wpAny (model prog w) A (getMethod (.ref so) (Str.ofString "__len__") pl) Q E s :=
  super_meth slot_wd_get entry_wd_get (args_wd_get _ _ _) ty_len (fun _ _ _ _ _ _ _ _ _ _ _ _ X hx hq => wdget_len X hx hq) (along_len _) (by decide) F X₀ N hso hx h
theorem sm_init {pl : Sem Bool} {Q : Value × List Value → Shared → Prop} (F : Fr h₀ L s.heap m) (X₀ : (Mine.frag.heap_1 w.params).In h₀) (N : News h₀ L s.heap news) (hso : (so, ks_superObj 122 x 122) ∈ news) (hx : (x, pileO dx vs ep) ∈ news)
    (h : ∀ q h', Fr h₀ L h' m → News h₀ L h' ((q, boundO "method-wrapper" "list.__init__" x) :: news) → (∀ p ∈ news, p.1 < q) → Q (.ref q, []) { s with heap := h', toks := s.toks + 1 }) : wpAny (model prog w) A (getMethod (.ref so) (Str.ofString "__init__") pl) Q E s :=
  super_meth slot_wd_get entry_wd_get (args_wd_get _ _ _) ty_init (fun _ _ _ _ _ _ _ _ _ _ _ _ X hx hq => wdget_init X hx hq) (along_init _) (by decide) F X₀ N hso hx h
theorem newsSame {h h' : Heap} {o : Obj} (N : News h₀ L h news) (hx : (x, o) ∈ news) (hs : Heap.SameBut x h h') (ho : h'.get? x = some o) : News h₀ L h' news := by
  intro p hp
  refine ⟨?_, (N p hp).2⟩
  by_cases e : p.1 = x
  · have h1 := (N p hp).1
    rw [e, (N _ hx).1] at h1
    rw [e, ho, h1]
  · exact (hs.2 _ e).trans (N p hp).1
theorem cb_pop {v : Value} {Q : Value → Shared → Prop} (F : Fr h₀ L s.heap m) (X₀ : (Mine.frag.heap_1 w.params).In h₀) (N : News h₀ L s.heap news) (hb : (b, boundO "builtin_function_or_method" "list.pop" x) ∈ news)
    (U : Upd x (pileO dx (vs ++ [v]) ep) (pileO dx vs (ep + 1)) news news') (hsz : vs.length < sizeLine)
    (h : ∀ h', Fr h₀ L h' m → News h₀ L h' news' → Q v { s with heap := h' }) : wpAny (model prog w) A (PySem.call (.ref b) []) Q E s := by
  have X := X₀.keeps F.keep
  have hb' := (N _ hb).1
  obtain ⟨pre, post, rfl, rfl, a1, a2⟩ := U.split
  have z := N (x, pileO dx (vs ++ [v]) ep) (List.mem_append.mpr (.inr (.head _)))
  refine call_bound (.inl rfl) X z.1 hb' (by decide +kernel) PySem.F.entry_list_pop (fun Q s X hx q => check_bound_pop X hx q) ?_
  exact pop_body z.1 hsz fun h' hs ho' => ⟨_, rfl, h h' (F.change hs z.2.1 z.2.2) (news_set N a1 a2 hs ho')⟩
theorem cb_len {Q : Value → Shared → Prop} (F : Fr h₀ L s.heap m) (X₀ : (Mine.frag.heap_1 w.params).In h₀) (N : News h₀ L s.heap news) (hb : (b, boundO "method-wrapper" "list.__len__" x) ∈ news) (hx : (x, pileO dx vs ep) ∈ news)
    (h : ∀ t tk, Q (.int vs.length t) { s with toks := tk }) : wpAny (model prog w) A (PySem.call (.ref b) []) Q E s := by
  have X := X₀.keeps F.keep
  refine call_bound (.inr rfl) X (N _ hx).1 (N _ hb).1 (by decide +kernel) PySem.F.entry_list_len (fun Q s X hx q => check_bound_slot (by decide +kernel) (PySem.F.args_list_len_1 _) q) ?_
  exact len_body (N _ hx).1 fun t tk => ⟨_, rfl, h t tk⟩
theorem cb_init {Q : Value → Shared → Prop} (F : Fr h₀ L s.heap m) (X₀ : (Mine.frag.heap_1 w.params).In h₀) (N : News h₀ L s.heap news) (hb : (b, boundO "method-wrapper" "list.__init__" x) ∈ news) (hx : (x, pileO dx [] ep) ∈ news)
    (h : ∀ h', Fr h₀ L h' m → News h₀ L h' news → Q .none { s with heap := h' }) : wpAny (model prog w) A (PySem.call (.ref b) []) Q E s := by
  have X := X₀.keeps F.keep
  refine call_bound (.inr rfl) X (N _ hx).1 (N _ hb).1 (by decide +kernel) PySem.F.entry_list_init (fun Q s X hx q => check_bound_slot (by decide +kernel) (PySem.F.args_list_init_1 _) q) ?_
  exact init_body (N _ hx).1 fun h' hs ho' => ⟨_, rfl, h h' (F.change hs (N _ hx).2.1 (N _ hx).2.2) (newsSame N hx hs ho')⟩
end
section
variable {prog : Program} {w : World} {A : Around} {s : Shared} {K : Frag} {p : Program} {loose : List Str} {mean : ExcName → Option Value} {mg mb : Str → Option Value}
theorem enterHS {R : Result → Shared → Prop} {name qual : Str} {params : Arguments} {body : List Stmt} {scope : Scope} {dV kV doc pm cdv ct oc : Value} {an od : Option Addr} {osl : Array (Option Value)} {f cc : Addr} {args : Args} {binds : List (Str × Value)}
    (hid : List Addr) (h₀ : Heap) (hk : ∀ b o, h₀.get? b = some o → s.heap.get? b = some o) (hn : ∀ b ∈ hid, h₀.get? b = none) (X₀ : K.In h₀) (T : Top p loose mean mg mb h₀)
    (ho : K.lookup f = some ⟨oc, od, .func (ksFn name qual params body scope dV kV doc pm an cdv ct cc), osl⟩) (hcd : codeIn K cdv qual = true) (hroom : A.depth < recursionLimit)
    (hbind : BindsTo s (ksFn name qual params body scope dV kV doc pm an cdv ct cc) args binds) (hloc : ∀ y ∈ binds, scope.names.lookup y.1 = some .local)
    (h : ∀ g h₁ L', (∀ b o, g.get? b = some o → s.heap.get? b = some o) → (∀ b o, s.heap.get? b = some o → b ∉ hid → g.get? b = some o) → (∀ b ∈ hid, g.get? b = none) → s.heap.objs.size = L' →
      (∀ b o, s.heap.get? b = some o → h₁.get? b = some o) → Fr g L' h₁ (fun y => binds.reverse.lookup y) → K.In g → Top p loose mean mg mb g →
      _root_.PySem.wpAt (model prog w) (A.deeper (ksEnv qual scope L' f cdv cc)) (.func body (ksEnv qual scope L' f cdv cc)) (execs body (ksEnv qual scope L' f cdv cc))
        (fun fl s' => R (.ok (.ret (match fl with | .ret v => v | _ => .none))) s') (fun _ _ => False)
        { s with heap := h₁, toks := s.toks + binds.length })
    (hcell : ∀ x ∈ scope.names, x.2 ≠ .cell) (hco : scope.isCoroutine = false) (hgen : scope.isGenerator = false) (hkd : scope.kind = .function) : codeAny (model prog w) A (.call (.ref f) args) R s := by
  refine ks_codeAny_call_defAt (fd := ksFn name qual params body scope dV kV doc pm an cdv ct cc) (body := body) (binds := binds) hroom (hk _ _ (X₀ _ _ ho)) rfl (T.nolimit.keeps hk) ((codeRec_of X₀ hcd).keeps hk) rfl hbind hcell hloc (fun h₁ hns hk₁ => ?_) hco hgen hkd
  have st : h₀.StaysIn (hideAll s.heap hid) := fun b o e => hideAll_get _ (hk b o e) fun q => by rw [hn b q] at e; cases e
  refine ks_wpAt_mono (h (hideAll s.heap hid) h₁ _ (fun b o e => of_hideAll _ e) (fun b o e n => hideAll_get _ e n) (fun b hb => hideAll_none _ hb) rfl hk₁ ⟨hns, fun b o e => hk₁ b o (of_hideAll _ e), Nat.le_of_eq (hideAll_size _ _)⟩ (X₀.keeps st) (T.keeps st)) (fun _ _ x => x) fun _ _ x => x.elim
end
theorem keepsBut {s g h : Heap} {L x dx : Addr} {m : Str → Option Value} {od : Obj} (F : Fr g L h m) (hg2 : ∀ b o, s.get? b = some o → b ∉ ([x, dx] : List Addr) → g.get? b = some o) (hd : s.get? dx = some od) (hd' : h.get? dx = some od) :
    ∀ b o, b ≠ x → s.get? b = some o → h.get? b = some o := by
  intro b o hb e
  by_cases q : b = dx
  · subst q; rw [hd] at e; rw [hd', e]
  · exact F.keep b o (hg2 b o e (by simp [hb, q]))
theorem freshBut {s g : Heap} {x dx a : Addr} (hg2 : ∀ b o, s.get? b = some o → b ∉ ([x, dx] : List Addr) → g.get? b = some o) (ha : g.get? a = none) (h1 : a ≠ x) (h2 : a ≠ dx) : s.get? a = none := by
  cases q : s.get? a with
  | none => rfl
  | some o => rw [hg2 a o q (by simp [h1, h2])] at ha; cases ha
end Mine

end
section
open PySem PySem.W PyProof.Rows PySem.Calls
set_option maxRecDepth 100000
set_option maxHeartbeats 8000000
set_option pp.deepTerms false
set_option pp.maxSteps 3000
namespace Mine
abbrev dictP (hs : Int) (tk t : Tok) : Obj := dictOf [⟨hs, .str (Str.ofString "_initial_size") tk, .int 0 t⟩] 1
noncomputable def tup2 (x y : Str) (t1 t2 : Tok) : Obj := { cls := .type "tuple", data := .seq #[.str x t1, .str y t2] }
theorem pileInst {h₀ h : Heap} {L x dx : Addr} {news : List (Addr × Obj)} {vs : List Value} {ep : Nat} {od : Obj} (N : News h₀ L h news) (h1 : (x, pileO dx vs ep) ∈ news) (h2 : (dx, od) ∈ news) : InstAt h x (pileO dx vs ep) 122 (some od) :=
  ⟨(N _ h1).1, rfl, rfl, (N _ h2).1⟩
theorem method_biK {prog : Program} {w : World} {A : Around} {E : Value → Shared → Prop} {s : Shared} {x dx L : Addr} {vs : List Value} {ep : Nat} {h₀ : Heap} {m : Str → Option Value} {es : List DictEntry} {n : Nat} {name : Str} {pl : Sem Bool} {id : String} {Q : Value × List Value → Shared → Prop} (F : Fr h₀ L s.heap m) (X₀ : (Mine.frag.heap_1 w.params).In h₀) (I : InstAt s.heap x (pileO dx vs ep) 122 (some (dictOf es n)))
    (hf : findIn (Mine.frag.heap_1 w.params) (.ref 122) name = some (some (.builtin id))) (ht : typeIn (Mine.frag.heap_1 w.params) (.builtin id) = some (.type "method_descriptor")) (hl : getL name es = some none) (h : Q (.builtin id, [.ref x]) s) :
    wpAny (model prog w) A (getMethod (.ref x) name pl) Q E s :=
  method_bi (X₀.keeps F.keep) I (ga_pile _) can_pile (hook_pile _) hf (.inl ht) (by show (lookIn name (dictOf es n)).map _ = _; rw [lookIn_dict, hl]; rfl) h
theorem method_fnK {prog : Program} {w : World} {A : Around} {E : Value → Shared → Prop} {s : Shared} {x dx L : Addr} {vs : List Value} {ep : Nat} {h₀ : Heap} {m : Str → Option Value} {es : List DictEntry} {n : Nat} {name : Str} {pl : Sem Bool} {f : Addr} {Q : Value × List Value → Shared → Prop} (F : Fr h₀ L s.heap m) (X₀ : (Mine.frag.heap_1 w.params).In h₀) (I : InstAt s.heap x (pileO dx vs ep) 122 (some (dictOf es n)))
    (hf : findIn (Mine.frag.heap_1 w.params) (.ref 122) name = some (some (.ref f))) (ht : typeIn (Mine.frag.heap_1 w.params) (.ref f) = some (.type "function")) (hl : getL name es = some none) (h : Q (.ref f, [.ref x]) s) :
    wpAny (model prog w) A (getMethod (.ref x) name pl) Q E s :=
  method_fnG (X₀.keeps F.keep) I (ga_pile _) can_pile (hook_pile _) hf ht (by show (lookIn name (dictOf es n)).map _ = _; rw [lookIn_dict, hl]; rfl) h
theorem append_pile {prog : Program} {w : World} {A : Around} {E : Value → Shared → Prop} {s : Shared} {x dx L : Addr} {h₀ : Heap} {m : Str → Option Value} {news news' : List (Addr × Obj)} {vs : List Value} {ep : Nat} {v : Value} {Q : Value → Shared → Prop}
    (F : Fr h₀ L s.heap m) (X₀ : (Mine.frag.heap_1 w.params).In h₀) (N : News h₀ L s.heap news) (U : Upd x (pileO dx vs ep) (pileO dx (vs ++ [v]) (ep + 1)) news news') (hsz : vs.length ≤ sizeLine)
    (h : ∀ h', Fr h₀ L h' m → News h₀ L h' news' → Q .none { s with heap := h' }) : wpAny (model prog w) A (PySem.call (.builtin "list.append") [.ref x, v]) Q E s := by
  obtain ⟨pre, post, rfl, rfl, a, b⟩ := U.split
  have z := N (x, pileO dx vs ep) (List.mem_append.mpr (.inr (.head _)))
  refine call_lb (n := "append") (X₀.keeps F.keep) z.1 (.inr (by decide +kernel)) (by decide +kernel) (by decide +kernel) entry_list_append (args_list_append _ _) ?_
  exact append_body z.1 hsz fun h' hs ho' => ⟨_, rfl, h h' (F.change hs z.2.1 z.2.2) (news_set N a b hs ho')⟩
theorem keepsPile {s g h : Heap} {L x dx : Addr} {m : Str → Option Value} {ox od : Obj} (F : Fr g L h m) (hg2 : ∀ b o, s.get? b = some o → b ∉ ([x, dx] : List Addr) → g.get? b = some o) (hx : s.get? x = some ox) (hx' : h.get? x = some ox) (hd : s.get? dx = some od) (hd' : h.get? dx = some od) :
    ∀ b o, s.get? b = some o → h.get? b = some o := by
  intro b o e
  by_cases q : b = x
  · subst q; rw [hx] at e; rw [hx', e]
  · exact keepsBut F hg2 hd hd' b o q e
theorem callWith_B0 {M : Model} {A : Around} {E : Value → Shared → Prop} {s : Shared} {h₀ : Heap} {L q x : Addr} {news : List (Addr × Obj)} {ty id : String} {pos : Pos} {env : Env} {Q : Value → Shared → Prop} (hty : (ty == "builtin_function_or_method" || ty == "method-wrapper") = true) (N : News h₀ L s.heap news) (hq : (q, boundO ty id x) ∈ news)
    (h : wpAny M A (PySem.call (.ref q) []) Q E s) : wpAny M A (callWith pos (.ref q) [] (backTo pos (starEach [] env)) []) Q E s :=
  callWith_of (P := fun h => h.get? q = some (boundO ty id x)) rfl (fun h' e => ⟨.machine, .inr (.inl rfl), (Looks.ld (part := none) e).andThen (by
    rcases Bool.or_eq_true_iff.mp hty with h1 | h1 <;> (have h2 := beq_iff_eq.mp h1; subst h2; exact .now))⟩) (evalArgs_nil3 ⟨(N _ hq).1, h⟩)
local macro_rules | `(tactic| walk_at "callWith ref") => `(tactic| (k_here; k_dflt (refine' callWith_B0 ?k0 ?k1 ?k2 ?_; (case k1 => k_asm); (case k2 => k_mem); (case k0 => decide); (try dsimp only))))
local macro_rules | `(tactic| walk_at "wpAt") => `(tactic| (first | ((try dsimp only); ks_step "execs cons"; refine ks_wpAt_execs_cons ?_) | ((try dsimp only); ks_step "eval Call"; refine ks_wpAt_MethodCall ?_) | ((try dsimp only); ks_step "exec Return"; refine ks_wpAt_Return_some ?_)))
local macro_rules | `(tactic| k_inst) => `(tactic| (refine' pileInst ?N ?h1 ?h2; (case N => k_asm); (case h1 => k_mem); (case h2 => k_mem)))
local macro_rules | `(tactic| walk_at "getMethod ref") => `(tactic| (k_here; k_dflt (first
  | (refine' method_biK ?k1 ?k2 ?k3 ?k5 ?k6 ?k7 ?_; (case k1 => k_asm); (case k2 => k_asm); (case k3 => k_inst); (case k5 => k_is); (case k6 => k_is); (case k7 => k_get); k_whole)
  | (refine' method_fnK ?k1 ?k2 ?k3 ?k5 ?k6 ?k7 ?_; (case k1 => k_asm); (case k2 => k_asm); (case k3 => k_inst); (case k5 => k_is); (case k6 => k_is); (case k7 => k_get); k_whole)
  | (refine' sm_pop ?k1 ?k2 ?k3 ?k4 ?k5 ?_; (case k1 => k_asm); (case k2 => k_asm); (case k3 => k_asm); (case k4 => k_mem); (case k5 => k_mem); intro q' h' F' N' l1; (try k_lt l1); (try dsimp only))
  | (refine' sm_len ?k1 ?k2 ?k3 ?k4 ?k5 ?_; (case k1 => k_asm); (case k2 => k_asm); (case k3 => k_asm); (case k4 => k_mem); (case k5 => k_mem); intro q' h' F' N' l1; (try k_lt l1); (try dsimp only))
  | (refine' sm_init ?k1 ?k2 ?k3 ?k4 ?k5 ?_; (case k1 => k_asm); (case k2 => k_asm); (case k3 => k_asm); (case k4 => k_mem); (case k5 => k_mem); intro q' h' F' N' l1; (try k_lt l1); (try dsimp only)))))
local macro_rules | `(tactic| walk_at "call ref") => `(tactic| (k_here; k_dflt (first
  | (refine' cb_pop ?k1 ?k2 ?k3 ?k4 ?k5 ?k6 ?_; (case k1 => k_asm); (case k2 => k_asm); (case k3 => k_asm); (case k4 => k_mem); (case k5 => k_upd); (case k6 => first | assumption | omega); intro h' F' N'; (try k_sweep))
  | (refine' cb_len ?k1 ?k2 ?k3 ?k4 ?k5 ?_; (case k1 => k_asm); (case k2 => k_asm); (case k3 => k_asm); (case k4 => k_mem); (case k5 => k_mem); intro t' tk'; (try dsimp only))
  | (refine' cb_init ?k1 ?k2 ?k3 ?k4 ?k5 ?_; (case k1 => k_asm); (case k2 => k_asm); (case k3 => k_asm); (case k4 => k_mem); (case k5 => k_mem); intro h' F' N'; (try k_sweep)))))
local macro_rules | `(tactic| walk_at "call builtin:list.append") => `(tactic| (k_here; k_dflt (refine' append_pile ?k1 ?k2 ?k3 ?k4 ?k5 ?_; (case k1 => k_asm); (case k2 => k_asm); (case k3 => k_asm); (case k4 => k_upd); (case k5 => first | assumption | omega); k_whole); intro h' F' N'; (try k_sweep)))

theorem c_push : ∀ (w : World) (p : Program) (loose : List Str) (mean : ExcName → Option Value) (mg mb : Str → Option Value) (A : Around) (s : Shared) (Q : Value → Shared → Prop) (E : Value → Shared → Prop) (h₀ : Heap) (x dx : Addr) (vs : List Value) (ep : Nat) (hs : Int) (tk t : Tok) (a b : Str) (t1 t2 : Tok),
   (Mine.frag.heap_1 w.params).In h₀ → Top p loose mean mg mb h₀ → (∀ b o, h₀.get? b = some o → s.heap.get? b = some o) → h₀.get? x = none → h₀.get? dx = none → x ≠ dx →
   s.heap.get? x = some (pileO dx vs ep) → s.heap.get? dx = some (dictP hs tk t) → vs.length ≤ sizeLine → A.handled = none → A.depth + 2 < recursionLimit → A.units + 4 * 2 < cLine →
   (∀ h' tk' c t1 t2, (∀ b o, b ≠ x → s.heap.get? b = some o → h'.get? b = some o) → h'.get? x = some (pileO dx (vs ++ [.ref c]) (ep + 1)) → s.heap.get? c = none → h'.get? c = some (tup2 a b t1 t2) → Q .none {s with heap := h', toks := tk'}) →
   wpAny (model PySem.Challenge.rw_wu0023_01.row.prog w) A (PySem.call (.ref 66) [.ref x, .str a t1, .str b t2]) Q E s := by
  k_fill
  intro w p loose mean mg mb A s Q E h₀ x dx vs ep hs tk t a b t1 t2 X T hk0 hx0 hd0 hxd hx hdx hsz hA0 hA hu hret
  obtain ⟨hd, dp, fr, gd, un⟩ := A
  dsimp only at hA0 hA hu
  subst hA0
  refine wpAny_call ?_
  refine' enterH [x, dx] h₀ hk0 ?hn X T ?k6 ?k7 (by dsimp only; omega) ?k9 ?kB ?_ ?c2 ?c3 ?c4 ?c5
  case hn => intro b hb; rcases List.mem_cons.mp hb with rfl | hb; exact hx0; rcases List.mem_cons.mp hb with rfl | hb; exact hd0; cases hb
  case k6 => k_is
  case k7 => k_is
  case k9 => exact BindsTo.of_eq rfl
  case c5 => decide
  case kB => exact locs rfl
  case c2 => exact rfl
  case c3 => exact rfl
  case c4 => exact rfl
  intro g h₁ L' hg1 hg2 hg3 hL hk F X' T'
  dsimp only
  have hxL : x ≠ L' := by rw [← hL]; exact Nat.ne_of_lt (Heap.lt_size hx)
  have hdL : dx ≠ L' := by rw [← hL]; exact Nat.ne_of_lt (Heap.lt_size hdx)
  have N : News g L' h₁ [(x, pileO dx vs ep), (dx, dictP hs tk t)] := by
    intro p hp
    rcases List.mem_cons.mp hp with rfl | hp
    · exact ⟨hk _ _ hx, hxL, hg3 _ (.head _)⟩
    · rcases List.mem_cons.mp hp with rfl | hp
      · exact ⟨hk _ _ hdx, hdL, hg3 _ (.tail _ (.head _))⟩
      · cases hp
  have hxd' := neN hxd
  k_steps
  try dsimp only
  (with_reducible rename Fr _ _ _ _ => F'); (with_reducible rename News _ _ _ _ => N')
  have z := N' _ (List.Mem.head _)
  dsimp only at z
  exact hret _ _ _ _ _ (keepsBut F' hg2 hdx (N' _ (.tail _ (.tail _ (.head _)))).1) (N' _ (.tail _ (.head _))).1 (freshBut hg2 z.2.2 (by k_ne) (by k_ne)) z.1

theorem c_count : ∀ (w : World) (p : Program) (loose : List Str) (mean : ExcName → Option Value) (mg mb : Str → Option Value) (A : Around) (s : Shared) (Q : Value → Shared → Prop) (E : Value → Shared → Prop) (h₀ : Heap) (x dx : Addr) (vs : List Value) (ep : Nat) (hs : Int) (tk t : Tok) ,
   (Mine.frag.heap_1 w.params).In h₀ → Top p loose mean mg mb h₀ → (∀ b o, h₀.get? b = some o → s.heap.get? b = some o) → h₀.get? x = none → h₀.get? dx = none → x ≠ dx →
   s.heap.get? x = some (pileO dx vs ep) → s.heap.get? dx = some (dictP hs tk t) → True → A.handled = none → A.depth + 2 < recursionLimit → A.units + 4 * 2 < cLine →
   (∀ t h' tk', (∀ b o, s.heap.get? b = some o → h'.get? b = some o) → Q (.int vs.length t) {s with heap := h', toks := tk'}) →
   wpAny (model PySem.Challenge.rw_wu0023_01.row.prog w) A (PySem.call (.ref 119) [.ref x]) Q E s := by
  k_fill
  intro w p loose mean mg mb A s Q E h₀ x dx vs ep hs tk t  X T hk0 hx0 hd0 hxd hx hdx hsz hA0 hA hu hret
  obtain ⟨hd, dp, fr, gd, un⟩ := A
  dsimp only at hA0 hA hu
  subst hA0
  refine wpAny_call ?_
  refine' enterHS [x, dx] h₀ hk0 ?hn X T ?k6 ?k7 (by dsimp only; omega) ?k9 ?kB ?_ ?c5 ?c2 ?c3 ?c4
  case hn => intro b hb; rcases List.mem_cons.mp hb with rfl | hb; exact hx0; rcases List.mem_cons.mp hb with rfl | hb; exact hd0; cases hb
  case k6 => k_is
  case k7 => k_is
  case k9 => exact BindsTo.of_eq rfl
  case c5 => decide
  case kB => exact locs rfl
  case c2 => exact rfl
  case c3 => exact rfl
  case c4 => exact rfl
  intro g h₁ L' hg1 hg2 hg3 hL hk F X' T'
  dsimp only
  have hxL : x ≠ L' := by rw [← hL]; exact Nat.ne_of_lt (Heap.lt_size hx)
  have hdL : dx ≠ L' := by rw [← hL]; exact Nat.ne_of_lt (Heap.lt_size hdx)
  have N : News g L' h₁ [(x, pileO dx vs ep), (dx, dictP hs tk t)] := by
    intro p hp
    rcases List.mem_cons.mp hp with rfl | hp
    · exact ⟨hk _ _ hx, hxL, hg3 _ (.head _)⟩
    · rcases List.mem_cons.mp hp with rfl | hp
      · exact ⟨hk _ _ hdx, hdL, hg3 _ (.tail _ (.head _))⟩
      · cases hp
  have hxd' := neN hxd
  k_steps
  try dsimp only
  (with_reducible rename Fr _ _ _ _ => F'); (with_reducible rename News _ _ _ _ => N')
  exact hret _ _ _ (keepsPile F' hg2 hx (N' _ (.tail _ (.tail _ (.head _)))).1 hdx (N' _ (.tail _ (.tail _ (.tail _ (.head _))))).1)

local macro_rules | `(tactic| walk_at "call ref") => `(tactic| (k_here; (with_reducible show wpAny _ _ (PySem.call (Value.ref 119) _) _ _ _); (with_reducible rename Fr _ _ _ _ => cF'); (with_reducible rename News _ _ _ _ => cN'); (with_reducible rename Frag.In _ _ => cX'); (with_reducible rename Top _ _ _ _ _ _ => cT'); (refine' c_count _ _ _ _ _ _ _ _ _ _ _ _ _ _ _ _ _ _ cX' cT' (Fr.keep cF') (cN' (_, pileO _ _ _) ?m1).2.2 (cN' (_, dictP _ _ _) ?m2).2.2 ?ne (cN' (_, pileO _ _ _) ?m1).1 (cN' (_, dictP _ _ _) ?m2).1 trivial rfl ?kd ?ku ?_); (case m1 => k_mem); (case m2 => k_mem); (case ne => k_ne); (case kd => (simp only [depth_under_make, depth_under_kw, depth_in1, depth_deeper]; omega)); (case ku => (simp only [units_in1, units_deeper]; omega)); (intro t' h' tk' hk'; have F' := Fr.keeps cF' hk'; have N' := News.grown cN' hk'; clear hk' cF' cN'); (try dsimp only); walk_say "CONTRACT count"))

theorem c_pop1 : ∀ (w : World) (p : Program) (loose : List Str) (mean : ExcName → Option Value) (mg mb : Str → Option Value) (A : Around) (s : Shared) (Q : Value → Shared → Prop) (E : Value → Shared → Prop) (h₀ : Heap) (x dx : Addr) (vs : List Value) (ep : Nat) (hs : Int) (tk t : Tok) (v : Value),
   (Mine.frag.heap_1 w.params).In h₀ → Top p loose mean mg mb h₀ → (∀ b o, h₀.get? b = some o → s.heap.get? b = some o) → h₀.get? x = none → h₀.get? dx = none → x ≠ dx →
   s.heap.get? x = some (pileO dx (vs ++ [v]) ep) → s.heap.get? dx = some (dictP hs tk t) → vs.length < sizeLine → A.handled = none → A.depth + 4 < recursionLimit → A.units + 4 * 4 < cLine →
   (∀ h' tk', (∀ b o, b ≠ x → s.heap.get? b = some o → h'.get? b = some o) → h'.get? x = some (pileO dx vs (ep + 1)) → Q v {s with heap := h', toks := tk'}) →
   wpAny (model PySem.Challenge.rw_wu0023_01.row.prog w) A (PySem.call (.ref 82) [.ref x]) Q E s := by
  k_fill
  intro w p loose mean mg mb A s Q E h₀ x dx vs ep hs tk t v X T hk0 hx0 hd0 hxd hx hdx hsz hA0 hA hu hret
  obtain ⟨hd, dp, fr, gd, un⟩ := A
  dsimp only at hA0 hA hu
  subst hA0
  refine wpAny_call ?_
  refine' enterHS [x, dx] h₀ hk0 ?hn X T ?k6 ?k7 (by dsimp only; omega) ?k9 ?kB ?_ ?c5 ?c2 ?c3 ?c4
  case hn => intro b hb; rcases List.mem_cons.mp hb with rfl | hb; exact hx0; rcases List.mem_cons.mp hb with rfl | hb; exact hd0; cases hb
  case k6 => k_is
  case k7 => k_is
  case k9 => exact BindsTo.of_eq rfl
  case c5 => decide
  case kB => exact locs rfl
  case c2 => exact rfl
  case c3 => exact rfl
  case c4 => exact rfl
  intro g h₁ L' hg1 hg2 hg3 hL hk F X' T'
  dsimp only
  have hxL : x ≠ L' := by rw [← hL]; exact Nat.ne_of_lt (Heap.lt_size hx)
  have hdL : dx ≠ L' := by rw [← hL]; exact Nat.ne_of_lt (Heap.lt_size hdx)
  have N : News g L' h₁ [(x, pileO dx (vs ++ [v]) ep), (dx, dictP hs tk t)] := by
    intro p hp
    rcases List.mem_cons.mp hp with rfl | hp
    · exact ⟨hk _ _ hx, hxL, hg3 _ (.head _)⟩
    · rcases List.mem_cons.mp hp with rfl | hp
      · exact ⟨hk _ _ hdx, hdL, hg3 _ (.tail _ (.head _))⟩
      · cases hp
  have hxd' := neN hxd
  refine ks_wpAt_execs_cons (wpAt_of_wpAny ?_)
  k_fold
  k_steps
  · exfalso
    have h0 : ((vs ++ [v]).length : Int) = 0 := by assumption
    rw [List.length_append] at h0
    simp at h0
    omega
  · try dsimp only
    (with_reducible rename Fr _ _ _ _ => F'); (with_reducible rename News _ _ _ _ => N')
    exact hret _ _ (keepsBut F' hg2 hdx (N' _ (.tail _ (.tail _ (.tail _ (.head _))))).1) (N' _ (.tail _ (.tail _ (.head _)))).1

theorem c_pop0 : ∀ (w : World) (p : Program) (loose : List Str) (mean : ExcName → Option Value) (mg mb : Str → Option Value) (A : Around) (s : Shared) (Q : Value → Shared → Prop) (E : Value → Shared → Prop) (h₀ : Heap) (x dx : Addr) (ep : Nat) (hs : Int) (tk t : Tok) ,
   (Mine.frag.heap_1 w.params).In h₀ → Top p loose mean mg mb h₀ → (∀ b o, h₀.get? b = some o → s.heap.get? b = some o) → h₀.get? x = none → h₀.get? dx = none → x ≠ dx →
   s.heap.get? x = some (pileO dx [] ep) → s.heap.get? dx = some (dictP hs tk t) → True → A.handled = none → A.depth + 4 < recursionLimit → A.units + 4 * 4 < cLine →
   (∀ h' tk' c t1 t2, (∀ b o, s.heap.get? b = some o → h'.get? b = some o) → s.heap.get? c = none → h'.get? c = some (tup2 Str.empty Str.empty t1 t2) → Q (.ref c) {s with heap := h', toks := tk'}) →
   wpAny (model PySem.Challenge.rw_wu0023_01.row.prog w) A (PySem.call (.ref 82) [.ref x]) Q E s := by
  k_fill
  intro w p loose mean mg mb A s Q E h₀ x dx ep hs tk t  X T hk0 hx0 hd0 hxd hx hdx hsz hA0 hA hu hret
  obtain ⟨hd, dp, fr, gd, un⟩ := A
  dsimp only at hA0 hA hu
  subst hA0
  refine wpAny_call ?_
  refine' enterHS [x, dx] h₀ hk0 ?hn X T ?k6 ?k7 (by dsimp only; omega) ?k9 ?kB ?_ ?c5 ?c2 ?c3 ?c4
  case hn => intro b hb; rcases List.mem_cons.mp hb with rfl | hb; exact hx0; rcases List.mem_cons.mp hb with rfl | hb; exact hd0; cases hb
  case k6 => k_is
  case k7 => k_is
  case k9 => exact BindsTo.of_eq rfl
  case c5 => decide
  case kB => exact locs rfl
  case c2 => exact rfl
  case c3 => exact rfl
  case c4 => exact rfl
  intro g h₁ L' hg1 hg2 hg3 hL hk F X' T'
  dsimp only
  have hxL : x ≠ L' := by rw [← hL]; exact Nat.ne_of_lt (Heap.lt_size hx)
  have hdL : dx ≠ L' := by rw [← hL]; exact Nat.ne_of_lt (Heap.lt_size hdx)
  have N : News g L' h₁ [(x, pileO dx [] ep), (dx, dictP hs tk t)] := by
    intro p hp
    rcases List.mem_cons.mp hp with rfl | hp
    · exact ⟨hk _ _ hx, hxL, hg3 _ (.head _)⟩
    · rcases List.mem_cons.mp hp with rfl | hp
      · exact ⟨hk _ _ hdx, hdL, hg3 _ (.tail _ (.head _))⟩
      · cases hp
  have hxd' := neN hxd
  refine ks_wpAt_execs_cons (wpAt_of_wpAny ?_)
  k_fold
  k_steps
  · skip
    try dsimp only
    (with_reducible rename Fr _ _ _ _ => F'); (with_reducible rename News _ _ _ _ => N')
    have z := N' _ (List.Mem.head _)
    dsimp only at z
    exact hret _ _ _ _ _ (keepsPile F' hg2 hx (N' _ (.tail _ (.head _))).1 hdx (N' _ (.tail _ (.tail _ (.head _)))).1) (freshBut hg2 z.2.2 (by k_ne) (by k_ne)) z.1

open PySem PySem.W PyProof.Rows PySem.Calls PySem.Builtin PySem.Builtin.ObjectAttr PySem.Builtin.Getset_descriptor
noncomputable def makesP (K : Frag) : Bool := match K.lookup 122 with
  | some ⟨_, _, .cls cd, sl⟩ => !cd.abstract && !cd.hasDel && (sl.toList[4]?).join == some (.builtin "list.__new__") && !cd.mro.isEmpty && cd.mro.contains (.ref 122) && cd.mro.contains (.type "list") &&
      specialIn K (.ref 122) "__call__" == some (some (.builtin "type.__call__")) && instIn K (.ref 122) (.type "type") == some true
  | _ => false
theorem makesP_is (P : Params) : makesP (Mine.frag.heap_1 P) = true := by kernel_rfl
structure MakesL (M : Model) (h : Heap) : Prop where
  obj : ∃ oc od cd sl, h.get? 122 = some ⟨oc, od, .cls cd, sl⟩ ∧ cd.abstract = false ∧ cd.hasDel = false ∧ cd.mro.isEmpty = false
  made : Looks M h (Bind.madeBy (.ref 122)) (some "list.__new__")
  base : Looks M h (Bind.staticBase (.ref 122)) (.ref 122)
  self : Looks M h (isSubtype (.ref 122) (.ref 122)) true
  top : Looks M h (isSubtype (.ref 122) (.type "list")) true
  call : Looks M h (specialOf (.ref 122) "__call__") (some (.builtin "type.__call__"))
  typ : Looks M h (isInstance (.ref 122) (.type "type")) true
theorem makesL_of {K : Frag} {M : Model} {h : Heap} (X : K.In h) (e : makesP K = true) : MakesL M h := by
  unfold makesP at e
  split at e
  · rename_i oc od cd sl ho
    simp only [Bool.and_eq_true, Bool.not_eq_true', beq_iff_eq] at e
    obtain ⟨⟨⟨⟨⟨⟨⟨e1, e2⟩, e3⟩, e4⟩, e5⟩, e6⟩, e7⟩, e8⟩ := e
    have hc : clsIn K 122 = some cd := by unfold clsIn; rw [ho]
    have hm : Looks M h (mroOf (.ref 122)) cd.mro := (looks_clsIn X hc).andThen .now
    obtain ⟨c, l, hl⟩ : ∃ c l, cd.mro = c :: l := by cases q : cd.mro with | nil => rw [q] at e4; cases e4 | cons c l => exact ⟨c, l, rfl⟩
    have made : Looks M h (Bind.madeBy (.ref 122)) (some "list.__new__") := by
      intro A Q E s k q
      unfold Bind.madeBy
      refine wpAny_bind (hm A _ E s k ?_)
      rw [hl, List.forIn_cons]
      refine wpAny_bind (wpAny_bind (wpAny_bind (wpAny_bind (wpAny_loadPart (k _ _ (X _ _ ho)) (wpAny_pure ?_)))))
      dsimp only
      rw [← Array.getElem?_toList, e3]
      exact wpAny_pure (wpAny_pure (wpAny_pure q))
    refine ⟨⟨oc, od, cd, sl, X _ _ ho, e1, e2, e4⟩, made, ?_, looks_mroIn X ?_, looks_mroIn X ?_, looks_specialIn X e7, looks_instIn X e8⟩
    · intro A Q E s k q
      unfold Bind.staticBase
      refine wpAny_bind (hm A _ E s k ?_)
      rw [hl, List.forIn_cons]
      exact wpAny_bind (wpAny_bind (wpAny_bind (made A _ E s k (wpAny_pure (wpAny_pure (wpAny_pure q))))))
    · unfold mroIn; rw [hc, Option.bind_some, if_neg (by rw [e4]; decide), e5]
    · unfold mroIn; rw [hc, Option.bind_some, if_neg (by rw [e4]; decide), e6]
  · cases e
theorem ln_kind : builtinKind "list.__new__" = some .builtinFn := by decide +kernel
theorem ln_split : splitId "list.__new__" = some ("list", "__new__") := by decide +kernel
theorem ln_sig0 : (Manifest.signature? "list.__new__").isSome = true := by kernel_rfl
theorem ln_sig1 (P : Addr) : (match Manifest.signature? "list.__new__" with | some sig => Bind.checkArgs "list.__new__" sig ⟨[.ref P], []⟩ | none => pure ()) = pure () := by kernel_rfl
section
variable {prog : Program} {w : World} {A : Around} {R : Result → Shared → Prop} {h : Heap} {g : Array GenState} {d : Drawn} {t : Nat} {os : OsState}
theorem new_pile (Y : MakesL (model prog w) h)
    (hq : R (.ok (.ret (.ref (h.objs.size + 1)))) ⟨(h.push emptyDict).push (pileO h.objs.size [] 0), g, d, t, os⟩) :
    codeAny (model prog w) A (.call (.builtin "list.__new__") ⟨[.ref 122], []⟩) R ⟨h, g, d, t, os⟩ := by
  obtain ⟨⟨oc, od, cd, sl, hC, e1, e2, e4⟩, made, base, self, top, call, typ⟩ := Y
  obtain ⟨sig, hsig⟩ := Option.isSome_iff_exists.mp ln_sig0
  have args := ln_sig1 122
  rw [hsig] at args
  have args' : Bind.checkArgs "list.__new__" sig ⟨[.ref 122], []⟩ = pure () := args
  refine codeAny_of_tree ?_
  show wpAny _ A.in1 (do checkBuiltinCall "list.__new__" ⟨[.ref 122], []⟩; again (.builtin "list.__new__" ⟨[.ref 122], []⟩)) _ _ _
  refine wpAny_bind ?_
  simp only [checkBuiltinCall, ln_kind, ln_split, hsig, args']
  have here : Looks (model prog w) h (Bind.madeBy (.ref 122)) (some "list.__new__") := made
  have hcan : (Manifest.canonical "list.__new__" != Manifest.canonical "list.__new__") = false := by simp
  have hisT : ∀ {Q : Bool → Shared → Prop} {A : Around} {E : Value → Shared → Prop}, Q true ⟨h, g, d, t, os⟩ → wpAny (model prog w) A (isType (.ref 122)) Q E ⟨h, g, d, t, os⟩ := fun hq => ks_wpAny_isType_cls hC rfl hq
  repeat (first | (with_reducible refine hisT ?_) | simp only [bne_self_eq_false, Bool.false_eq_true, if_false, hcan, Bool.not_true] | lk)
  refine ⟨plainId_quiet F.plain_list_new _, codeAny_builtin_stack F.entry_list_new rfl fun p st => ?_⟩
  rw [Around.under_plainId F.plain_list_new _]
  have hown := owner_list_new
  simp only [hown]
  repeat (first | (with_reducible refine hisT ?_) | simp only [bne_self_eq_false, Bool.false_eq_true, if_false, Bool.not_true] | lk)
  refine wpAny_loadPart (Heap.get?_push_of_some _ (Heap.get?_push_of_some _ hC)) ?_
  refine wpAny_pure ?_
  rw [e2]
  refine wpAny_pure ?_
  refine wpAny_pure ?_
  show R _ _
  rw [Heap.size_push]
  exact hq
theorem make_pile {fI : Addr} (Y : MakesL (model prog w) h) (hi : Looks (model prog w) h (typeLookup (.ref 122) "__init__") (some (.ref fI)))
    (hb : ∀ self, Looks (model prog w) h (bindSpecial (.ref fI) self) (.ref fI, [self]))
    (hq : codeAny (model prog w) (A.under (.builtin "type.__call__" ⟨[.ref 122], []⟩)) (.call (.ref fI) ⟨[.ref (h.objs.size + 1)], []⟩) (InitBack (h.objs.size + 1) R) ⟨(h.push emptyDict).push (pileO h.objs.size [] 0), g, d, t, os⟩) :
    codeAny (model prog w) A (.call (.ref 122) ⟨[], []⟩) R ⟨h, g, d, t, os⟩ := by
  have Y' := Y
  obtain ⟨⟨oc, od, cd, sl, hC, e1, e2, e4⟩, made, base, self, top, call, typ⟩ := Y
  refine codeAny_of_tree ?_
  show wpAny _ _ (callAny (.ref 122) _) _ _ _
  refine nd_load hC ?_
  show wpAny _ _ (callAny.viaDunder (.ref 122) _) _ _ _
  unfold callAny.viaDunder
  refine wpAny_bind (call.at ?_)
  dsimp only
  rw [tc_bind]
  refine wpAny_bind (wpAny_pure (wpAny_bind (wpAny_pure ?_)))
  refine wpAny_pure (a := Fin.again (.call (.builtin "type.__call__") ⟨[.ref 122], []⟩)) (And.intro rfl ?_)
  refine codeAny_call_builtin_at (Code.quiet_builtin _ (by decide +kernel)) entry_typeCall (check_slot tc_kind tc_split typ (tc_args _ _ _) ?_)
  unfold Builtin.«type.__call__»
  have hm : Looks (model prog w) h (mroOf (.ref 122)) cd.mro := ((Looks.ld (part := none) hC).andThen .now).andThen .now
  repeat (first | simp only [e4, Bool.false_eq_true, if_false] | with_reducible refine wpAny_call ?_ | lk)
  refine new_pile Y' ?_
  have k : ∀ b o, h.get? b = some o → ((h.push emptyDict).push (pileO h.objs.size [] 0)).get? b = some o := fun b o e => Heap.get?_push_of_some _ (Heap.get?_push_of_some _ e)
  have hx : ((h.push emptyDict).push (pileO h.objs.size [] 0)).get? (h.objs.size + 1) = some (pileO h.objs.size [] 0) := by heap_get
  have t1 : Looks (model prog w) ((h.push emptyDict).push (pileO h.objs.size [] 0)) (typeOf (.ref (h.objs.size + 1))) (.ref 122) := (Looks.ld hx).andThen .now
  have s1 := self.keeps k
  have i1 := hi.keeps k
  have b1 := (hb (.ref (h.objs.size + 1))).keeps k
  unfold isInstance callSpecial? specialOf
  repeat (first | with_reducible refine wpAny_call ?_ | lk)
  refine codeAny_mono hq fun r s' z => ?_
  rcases r with e | (v | _ | _ | _) <;> first | exact z | exact z.elim | skip
  obtain ⟨rfl, z⟩ := z
  exact wpAny_pure (wpAny_pure z)
end
abbrev dict0 : Obj := dictOf [] 0
theorem mro_pile (P : Params) : (clsIn (Mine.frag.heap_1 P) 122).map (·.mro) = some [.ref 122, .type "list", .type "object"] := by kernel_rfl
theorem refuse_pile (x : Addr) : refuseLoop (.ref x) "__setattr__" [.ref 122, .type "list", .type "object"] = pure () := by
  rw [refuseLoop_ref]; kernel_rfl
theorem taker_pile (P : Params) : takerIn (Mine.frag.heap_1 P) 122 "_initial_size" = some none := by kernel_rfl
theorem set_pile (P : Params) : findIn (Mine.frag.heap_1 P) (.ref 122) "__setattr__" = some (some (.builtin "object.__setattr__")) := by kernel_rfl
theorem hasDict_pile (P : Params) : (clsIn (Mine.frag.heap_1 P) 122).any (·.hasDict) = true := by kernel_rfl
section
variable {prog : Program} {w : World} {A : Around} {s : Shared} {R : Result → Shared → Prop} {x dx L : Addr} {h₀ : Heap} {m : Str → Option Value} {news : List (Addr × Obj)} {vs : List Value} {ep : Nat}
theorem store_open {od : Option Obj} {tk : Tok} {v : Value} (X : (Mine.frag.heap_1 w.params).In s.heap) (I : InstAt s.heap x (pileO dx vs ep) 122 od)
    (h : ∀ b, wpAny (model prog w) A.in1 (storeInOwnDict (.ref x) (.ref 122) (.str (Str.ofString "_initial_size") tk) (Str.ofString "_initial_size") v b)
      (fun fin s' => match fin with | .done f => R (.ok f) s' | .again c' => c'.quiet = true ∧ codeAny (model prog w) A c' R s') (fun e s' => R (.error e) s') s) :
    codeAny (model prog w) A (.call (.builtin "object.__setattr__") ⟨[.ref x, .str (Str.ofString "_initial_size") tk, v], []⟩) R s := by
  have SF := PySem.F.store_object
  obtain ⟨cd, hc, hmro⟩ := Option.map_eq_some_iff.mp (mro_pile w.params)
  have sub : Looks (model prog w) s.heap (isInstance (.ref x) (.type "object")) true := I.type.andThen (looks_mroIn X (by unfold mroIn; rw [hc, Option.bind_some, hmro]; rfl))
  refine codeAny_call_builtin SF.slot.plain SF.entry (@check_slot (model prog w) _ _ s "object.__setattr__" "object" "__setattr__" (.ref x) [.str (Str.ofString "_initial_size") tk, v] [] _ SF.kind SF.split sub (SF.args (.ref x) (.str (Str.ofString "_initial_size") tk) v) ?_)
  obtain ⟨attr, ha, hr⟩ := Option.bind_eq_some_iff.mp (taker_pile w.params)
  have hm : Looks (model prog w) s.heap (mroOf (.ref 122)) [.ref 122, .type "list", .type "object"] := hmro ▸ (looks_clsIn X hc).andThen .now
  have L3 : Looks (model prog w) s.heap (storeTaker? attr) none := by
    cases attr with
    | none => exact .now
    | some a =>
      obtain ⟨b, hb, e⟩ := Option.map_eq_some_iff.mp hr
      refine (looks_takesIn X hb).andThen ?_
      cases b <;> first | exact .now | cases e
  rw [osa_eq, refuse_eq]
  refine wpAny_bind (wpAny_bind (I.type.here (wpAny_bind (hm.here ?_))))
  rw [refuse_pile]
  refine wpAny_pure (wpAny_bind (I.type.here (wpAny_bind ((looks_findIn X ha).here (wpAny_bind (L3.here ?_))))))
  exact h _
theorem store_size {v : Value} {tk : Tok} {pre post : List (Addr × Obj)} (F : Fr h₀ L s.heap m) (N : News h₀ L s.heap (pre ++ (dx, dict0) :: post)) (X : (Mine.frag.heap_1 w.params).In s.heap)
    (I : InstAt s.heap x (pileO dx vs ep) 122 (some dict0)) (h1 : ∀ p ∈ pre, p.1 ≠ dx) (h2 : ∀ p ∈ post, p.1 ≠ dx)
    (h : ∀ h', Fr h₀ L h' m → News h₀ L h' (pre ++ (dx, dictOf [⟨PyData.keyHash w.params (Str.ofString "_initial_size"), .str (Str.ofString "_initial_size") s.toks, v⟩] 1) :: post) → R (.ok (.ret .none)) { s with heap := h', toks := s.toks + 1 }) :
    codeAny (model prog w) A (.call (.builtin "object.__setattr__") ⟨[.ref x, .str (Str.ofString "_initial_size") tk, v], []⟩) R s := by
  refine store_open X I fun b => ?_
  obtain ⟨cd, hc, hd'⟩ := any_some (hasDict_pile w.params)
  have e : Obj.putName (Str.ofString "_initial_size") (PyData.keyHash w.params (Str.ofString "_initial_size")) (.str (Str.ofString "_initial_size") s.toks) v dict0 = dictOf [⟨PyData.keyHash w.params (Str.ofString "_initial_size"), .str (Str.ofString "_initial_size") s.toks, v⟩] 1 := by rfl
  obtain ⟨U1, U2⟩ := news_upd (f := Obj.putName (Str.ofString "_initial_size") (PyData.keyHash w.params (Str.ofString "_initial_size")) (.str (Str.ofString "_initial_size") s.toks) v) F N h1 h2 e rfl
  have D := (N (dx, dict0) (by simp)).1
  have D' := (U2 (dx, dictOf [⟨PyData.keyHash w.params (Str.ofString "_initial_size"), .str (Str.ofString "_initial_size") s.toks, v⟩] 1) (by simp)).1
  obtain ⟨hx, hcl, hn, -⟩ := I
  refine wpAny_bind (wpAny_pure (wpAny_bind (wpAny_bind (wpAny_loadPart hx (wpAny_bind ((looks_clsIn X hc).here ?_))))))
  rw [hd']
  refine wpAny_pure (a := some dx) (wpAny_bind (wpAny_pure (wpAny_bind ?_)))
  unfold nsSet
  refine wpAny_bind (wpAny_bind (wpAny_askSetting (wpAny_pure (wpAny_bind (wpAny_mkText (wpAny_bind (wpAny_loadPart D ?_)))))))
  dsimp only
  have c : (!([] : List DictEntry).toArray.any (·.key.isStr (Str.ofString "_initial_size")) && ([] : List DictEntry).toArray.any (·.refKey)) = false := by simp
  rw [aRefKeyMayBeTheName_at, c]
  refine wpAny_updatePart D ?_
  refine wpAny_bind (wpAny_lookBehind D' (pastItsLine_dict (by rw [List.size_toArray, sizeLine_eq]; simp)) ?_)
  exact wpAny_pure (h _ U1 U2)
theorem set_size {v : Value} {E : Value → Shared → Prop} {Q : Unit → Shared → Prop} (F : Fr h₀ L s.heap m) (X₀ : (Mine.frag.heap_1 w.params).In h₀) (N : News h₀ L s.heap ((x, pileO dx vs ep) :: (dx, dict0) :: news)) (hxd : x ≠ dx) (hnd : ∀ p ∈ news, p.1 ≠ dx)
    (h : ∀ h' tk hs, Fr h₀ L h' m → News h₀ L h' ((x, pileO dx vs ep) :: (dx, dictOf [⟨hs, .str (Str.ofString "_initial_size") tk, v⟩] 1) :: news) → ∀ tk', Q () { s with heap := h', toks := tk' }) :
    wpAny (model prog w) A (setAttr (.ref x) (Str.ofString "_initial_size") v) Q E s := by
  have X := X₀.keeps F.keep
  have I : InstAt s.heap x (pileO dx vs ep) 122 (some dict0) := ⟨(N _ (.head _)).1, rfl, rfl, (N (dx, dict0) (.tail _ (.head _))).1⟩
  refine set_plain X I (set_pile _) ?_
  refine store_size (s := { s with toks := s.toks + 1 }) (pre := [(x, pileO dx vs ep)]) (post := news) F N X I (fun p hp => by rw [List.mem_singleton.mp hp]; exact hxd) hnd fun h' F' N' => h h' _ _ F' N' _
end
theorem c_init : ∀ (w : World) (p : Program) (loose : List Str) (mean : ExcName → Option Value) (mg mb : Str → Option Value) (A : Around) (s : Shared) (R : Result → Shared → Prop) (h₀ : Heap) (x dx : Addr),
   (Mine.frag.heap_1 w.params).In h₀ → Top p loose mean mg mb h₀ → (∀ b o, h₀.get? b = some o → s.heap.get? b = some o) → h₀.get? x = none → h₀.get? dx = none → x ≠ dx →
   s.heap.get? x = some (pileO dx [] 0) → s.heap.get? dx = some dict0 → A.handled = none → A.depth + 2 < recursionLimit → A.units + 8 < cLine →
   (∀ h' tk' hs tk t, (∀ b o, b ≠ x → b ≠ dx → s.heap.get? b = some o → h'.get? b = some o) → h'.get? x = some (pileO dx [] 0) → h'.get? dx = some (dictP hs tk t) → R (.ok (.ret .none)) {s with heap := h', toks := tk'}) →
   codeAny (model PySem.Challenge.rw_wu0023_01.row.prog w) A (.call (.ref 59) ⟨[.ref x], []⟩) R s := by
  k_fill
  intro w p loose mean mg mb A s R h₀ x dx X T hk0 hx0 hd0 hxd hx hdx hA0 hA hu hret
  obtain ⟨hd, dp, fr, gd, un⟩ := A
  dsimp only at hA0 hA hu
  subst hA0
  refine' enterHS [x, dx] h₀ hk0 ?hn X T ?k6 ?k7 (by dsimp only; omega) ?k9 ?kB ?_ ?c5 ?c2 ?c3 ?c4
  case hn => intro b hb; rcases List.mem_cons.mp hb with rfl | hb; exact hx0; rcases List.mem_cons.mp hb with rfl | hb; exact hd0; cases hb
  case k6 => k_is
  case k7 => k_is
  case k9 => (have X1 := X.keeps hk0); exact binds_K X1 rfl (by k_is) rfl rfl rfl
  case c5 => decide
  case kB => exact locs rfl
  case c2 => exact rfl
  case c3 => exact rfl
  case c4 => exact rfl
  intro g h₁ L' hg1 hg2 hg3 hL hk F X' T'
  dsimp only
  have hxL : x ≠ L' := by rw [← hL]; exact Nat.ne_of_lt (Heap.lt_size hx)
  have hdL : dx ≠ L' := by rw [← hL]; exact Nat.ne_of_lt (Heap.lt_size hdx)
  have N : News g L' h₁ [(x, pileO dx [] 0), (dx, dict0)] := by
    intro p hp
    rcases List.mem_cons.mp hp with rfl | hp
    · exact ⟨hk _ _ hx, hxL, hg3 _ (.head _)⟩
    · rcases List.mem_cons.mp hp with rfl | hp
      · exact ⟨hk _ _ hdx, hdL, hg3 _ (.tail _ (.head _))⟩
      · cases hp
  have hxd' := neN hxd
  refine ks_wpAt_execs_cons (wpAt_of_wpAny ?_)
  k_fold
  k_steps
  refine set_size F X' N hxd (fun p hp => nomatch hp) fun h' tk hs F1 N1 tk' => ?_
  clear F N
  k_steps
  try dsimp only
  (with_reducible rename Fr _ _ _ _ => F'); (with_reducible rename News _ _ _ _ => N')
  refine hret _ _ _ _ _ (fun b o hbx hbd e => F'.keep b o (hg2 b o e (by simp [hbx, hbd]))) (N' _ (.tail _ (.tail _ (.head _)))).1 (N' _ (.tail _ (.tail _ (.tail _ (.head _))))).1
/-- the pile is made -/
theorem c_make : ∀ (w : World) (p : Program) (loose : List Str) (mean : ExcName → Option Value) (mg mb : Str → Option Value) (A : Around) (s : Shared) (Q : Value → Shared → Prop) (E : Value → Shared → Prop),
   (Mine.frag.heap_1 w.params).In s.heap → Top p loose mean mg mb s.heap → A.handled = none → A.depth + 4 < recursionLimit → A.units + 16 < cLine →
   (∀ h' tk' x dx hs tk t, (∀ b o, s.heap.get? b = some o → h'.get? b = some o) → s.heap.get? x = none → s.heap.get? dx = none → x ≠ dx → h'.get? x = some (pileO dx [] 0) → h'.get? dx = some (dictP hs tk t) → Q (.ref x) {s with heap := h', toks := tk'}) →
   wpAny (model PySem.Challenge.rw_wu0023_01.row.prog w) A (PySem.call (.ref 122) []) Q E s := by
  intro w p loose mean mg mb A s Q E X T hA0 hA hu hret
  refine wpAny_call ?_
  obtain ⟨h, g, d, t, os⟩ := s
  have hi : findIn (Mine.frag.heap_1 w.params) (.ref 122) "__init__" = some (some (.ref 59)) := by kernel_rfl
  have hf : typeIn (Mine.frag.heap_1 w.params) (.ref 59) = some (.type "function") := by kernel_rfl
  refine make_pile (makesL_of X (makesP_is _)) (looks_findIn X hi) (fun self => bind_fn X self hf) ?_
  have k : ∀ b o, h.get? b = some o → ((h.push emptyDict).push (pileO h.objs.size [] 0)).get? b = some o := fun b o e => Heap.get?_push_of_some _ (Heap.get?_push_of_some _ e)
  have e1 : h.get? (h.objs.size + 1) = none := by
    cases q : h.get? (h.objs.size + 1) with
    | none => rfl
    | some o => exact absurd (Heap.lt_size q) (Nat.not_lt_of_le (Nat.le_succ _))
  have e2 : h.get? h.objs.size = none := by
    cases q : h.get? h.objs.size with
    | none => rfl
    | some o => exact absurd (Heap.lt_size q) (Nat.lt_irrefl _)
  refine c_init w p loose mean mg mb _ _ _ h (h.objs.size + 1) h.objs.size X T k e1 e2 (Nat.succ_ne_self _) (by heap_get) (by heap_get) ?_ ?_ ?_ ?_
  · exact hA0
  · simp only [depth_under_make]; omega
  · simp only [units_under_make]; omega
  · intro h' tk' hs tk t2 hk hx hdx
    exact ⟨rfl, hret h' tk' _ _ hs tk t2 (fun b o e => hk b o (by rintro rfl; rw [e1] at e; cases e) (by rintro rfl; rw [e2] at e; cases e) (k b o e)) e1 e2 (Nat.succ_ne_self _) hx hdx⟩
end Mine

end
section
open PySem PySem.W PyProof.Rows PySem.Calls
set_option maxRecDepth 100000
set_option maxHeartbeats 8000000
set_option pp.deepTerms false
set_option pp.maxSteps 1500
namespace Mine
theorem newsAdd {g h h' : Heap} {L a : Addr} {m : Str → Option Value} {news : List (Addr × Obj)} {o : Obj} (F : Fr g L h m) (N : News g L h news) (k : ∀ b o, h.get? b = some o → h'.get? b = some o) (ha : h.get? a = none) (hb : h'.get? a = some o) : News g L h' ((a, o) :: news) := by
  intro p hp
  rcases List.mem_cons.mp hp with rfl | hp
  · refine ⟨hb, ?_, ?_⟩
    · rintro rfl
      obtain ⟨o', es, ep, e, _⟩ := F.ns
      rw [e] at ha; cases ha
    · cases q : g.get? a with
      | none => rfl
      | some o' => rw [F.keep a o' q] at ha; cases ha
  · exact ⟨k _ _ (N p hp).1, (N p hp).2⟩
noncomputable def OffN (a : Addr) (news : List (Addr × Obj)) : Prop := ∀ p ∈ news, a ≠ p.1
theorem newsNe {g h : Heap} {L a : Addr} {news : List (Addr × Obj)} (N : News g L h news) (ha : h.get? a = none) : OffN a news := fun p hp q => by
  have e := (N p hp).1
  rw [← q, ha] at e; cases e
theorem keeps1 {s g h : Heap} {L c : Addr} {m : Str → Option Value} {o : Obj} (F : Fr g L h m) (hg2 : ∀ b o, s.get? b = some o → b ∉ ([c] : List Addr) → g.get? b = some o) (hc : s.get? c = some o) (hc' : h.get? c = some o) : ∀ b o, s.get? b = some o → h.get? b = some o := fun b o' e => by
  by_cases q : b = c
  · subst q; rw [hc] at e; rw [hc', e]
  · exact F.keep b o' (hg2 b o' e (fun hm => q (List.mem_singleton.mp hm)))
theorem fresh1 {s g : Heap} {a c : Addr} (hg2 : ∀ b o, s.get? b = some o → b ∉ ([c] : List Addr) → g.get? b = some o) (h : g.get? a = none) (n : a ≠ c) : s.get? a = none := by
  cases q : s.get? a with
  | none => rfl
  | some o => rw [hg2 a o q (fun hm => n (List.mem_singleton.mp hm))] at h; cases h
noncomputable def divP (k m : Int) : UInt64 := Float64.ofFrac (decide (k < 0) != decide (m < 0)) k.natAbs m.natAbs
noncomputable def turnedP (c : UInt64 × UInt64 × UInt64) (k m : Int) : UInt64 × UInt64 × UInt64 :=
  hlsP (Float64.add (rgbP c.1 c.2.1 c.2.2).1 (divP k m)) (rgbP c.1 c.2.1 c.2.2).2.1 (rgbP c.1 c.2.1 c.2.2).2.2
local macro_rules | `(tactic| walk_at "call ref") => `(tactic| (k_here; (with_reducible show wpAny _ _ (PySem.call (Value.ref 28) _) _ _ _); (with_reducible rename Fr _ _ _ _ => cF'); (with_reducible rename News _ _ _ _ => cN'); (with_reducible rename Frag.In _ _ => cX'); (with_reducible rename Top _ _ _ _ _ _ => cT'); (refine' c_rgb _ _ _ _ _ _ _ _ _ _ _ _ _ _ _ _ (Frag.In.keeps cX' (Fr.keep cF')) (Top.keeps cT' (Fr.keep cF')) rfl ?kd ?ku ?kz ?_); (case kd => (simp only [depth_under_make, depth_under_kw, depth_in1, depth_deeper]; omega)); (case ku => (simp only [units_in1, units_deeper]; omega)); (case kz => assumption); (intro a' h' tk' t1' t2' t3' hk' ha' hb'; have F' := Fr.keeps cF' hk'; have N' := newsAdd cF' cN' hk' ha' hb'; have cD' := newsNe cN' ha'; clear hk' cF' cN' ha' hb'); (try dsimp only); (try unfold tup3 at N'); walk_say "CONTRACT rgb"))
local macro_rules | `(tactic| walk_at "call ref") => `(tactic| (k_here; (with_reducible show wpAny _ _ (PySem.call (Value.ref 35) _) _ _ _); (with_reducible rename Fr _ _ _ _ => cF'); (with_reducible rename News _ _ _ _ => cN'); (with_reducible rename Frag.In _ _ => cX'); (with_reducible rename Top _ _ _ _ _ _ => cT'); (refine' c_hls _ _ _ _ _ _ _ _ _ _ _ _ _ _ _ _ (Frag.In.keeps cX' (Fr.keep cF')) (Top.keeps cT' (Fr.keep cF')) rfl ?kd ?ku ?_); (case kd => (simp only [depth_under_make, depth_under_kw, depth_in1, depth_deeper]; omega)); (case ku => (simp only [units_in1, units_deeper]; omega)); (intro a' h' tk' t1' t2' t3' hk' ha' hb'; have F' := Fr.keeps cF' hk'; have N' := newsAdd cF' cN' hk' ha' hb'; have cD' := newsNe cN' ha'; clear hk' cF' cN' ha' hb'); (try dsimp only); (try unfold tup3 at N'); walk_say "CONTRACT hls"))
theorem c_turned : ∀ (w : World) (p : Program) (loose : List Str) (mean : ExcName → Option Value) (mg mb : Str → Option Value) (A : Around) (s : Shared) (Q : Value → Shared → Prop) (E : Value → Shared → Prop) (h₀ : Heap) (c : Addr) (q : UInt64 × UInt64 × UInt64) (t1 t2 t3 : Tok) (k m : Int) (t4 t5 : Tok),
   (Mine.frag.heap_1 w.params).In h₀ → Top p loose mean mg mb h₀ → (∀ b o, h₀.get? b = some o → s.heap.get? b = some o) → h₀.get? c = none →
   s.heap.get? c = some (tup3 q.1 q.2.1 q.2.2 t1 t2 t3) → rgbOk q.1 q.2.1 q.2.2 = true → 0 ≤ k → k ≤ 10 → 1 ≤ m → m ≤ 10 → A.handled = none → A.depth + 6 < recursionLimit → A.units + 4 * 6 < cLine →
   (∀ a h' tk' t1 t2 t3, (∀ b o, s.heap.get? b = some o → h'.get? b = some o) → s.heap.get? a = none → h'.get? a = some (tup3 (turnedP q k m).1 (turnedP q k m).2.1 (turnedP q k m).2.2 t1 t2 t3) → Q (.ref a) {s with heap := h', toks := tk'}) →
   wpAny (model PySem.Challenge.rw_wu0023_01.row.prog w) A (PySem.call (.ref 161) [.ref c, .int k t4, .int m t5]) Q E s := by
  k_fill
  intro w p loose mean mg mb A s Q E h₀ c ⟨a1, a2, a3⟩ t1 t2 t3 k m t4 t5 X T hk0 hc0 hc hz hk1 hk2 hm1 hm2 hA0 hA hu hret
  dsimp only at hc hz
  obtain ⟨hd, dp, fr, gd, un⟩ := A
  dsimp only at hA0 hA hu
  subst hA0
  refine wpAny_call ?_
  refine' enterH [c] h₀ hk0 ?hn X T ?k6 ?k7 (by dsimp only; omega) ?k9 ?kB ?_ ?c2 ?c3 ?c4 ?c5
  case hn => intro b hb; rcases List.mem_cons.mp hb with rfl | hb; exact hc0; cases hb
  case k6 => k_is
  case k7 => k_is
  case k9 => exact BindsTo.of_eq rfl
  case c5 => decide
  case kB => exact locs rfl
  case c2 => exact rfl
  case c3 => exact rfl
  case c4 => exact rfl
  intro g h₁ L' hg1 hg2 hg3 hL hk F X' T'
  dsimp only
  have hcL : c ≠ L' := by rw [← hL]; exact Nat.ne_of_lt (Heap.lt_size hc)
  have N : News g L' h₁ [(c, tup3 a1 a2 a3 t1 t2 t3)] := by
    intro p hp
    rcases List.mem_cons.mp hp with rfl | hp
    · exact ⟨hk _ _ hc, hcL, hg3 _ (.head _)⟩
    · cases hp
  unfold tup3 at N
  k_steps
  try dsimp only
  (with_reducible rename Fr _ _ _ _ => F'); (with_reducible rename News _ _ _ _ => N')
  (with_reducible rename OffN _ _ => cD1)
  have hac := cD1 _ (.tail _ (.head _))
  exact hret _ _ _ _ _ _ (keeps1 F' hg2 hc (N' _ (.tail _ (.tail _ (.head _)))).1) (fresh1 hg2 (N' _ (.head _)).2.2 hac) (N' _ (.head _)).1
end Mine

end
section
open PySem PySem.W PyProof.Rows PySem.Calls PySem.Builtin
set_option maxRecDepth 100000
set_option maxHeartbeats 8000000
set_option pp.deepTerms false
set_option pp.maxSteps 1500
namespace Mine
theorem iter_find (P : Params) : findIn (Mine.frag.heap_1 P) (.ref 122) "__iter__" = some (some (.builtin "list.__iter__")) := by kernel_rfl
section
variable {prog : Program} {w : World} {A : Around} {E : Value → Shared → Prop} {s : Shared} {x dx : Addr} {vs : List Value} {ep : Nat} {od : Obj}
theorem iter_pile {Q : Value → Shared → Prop} (X : (Mine.frag.heap_1 w.params).In s.heap) (hx : s.heap.get? x = some (pileO dx vs ep)) (hd : s.heap.get? dx = some od)
    (h : Q (.ref s.heap.objs.size) { s with heap := s.heap.push { cls := .type "list_iterator", data := .fields #[.ref x, .int 0 0] } }) : wpAny (model prog w) A (pyIter (.ref x)) Q E s := by
  have I := instPile hx hd
  have go : wpAny (model prog w) A (call (.builtin "list.__iter__") [.ref x]) (fun it s' => wpAny (model prog w) A (specialOf it "__next__") (fun r s'' => match r with | none => False | some _ => Q it s'') E s') E s := by
    refine call_lb (n := "__iter__") X hx (.inl (by decide +kernel)) (by decide +kernel) (by decide +kernel) entry_list_iter (args_list_iter _) ?_
    refine iter_body ⟨_, rfl, wpAny_specialOf ⟨_, Heap.get?_push_size _ rfl, rfl⟩ slot_listiter_next.lookup ?_⟩
    exact h
  unfold pyIter
  refine wpAny_bind (wpAny_bind (I.type.here ((looks_findIn X (iter_find _)).here ?_)))
  dsimp only
  have fin : wpAny (model prog w) A (call (.builtin "list.__iter__") [.ref x] >>= fun v => pure (some v)) (fun o s' => match o with | some it => wpAny (model prog w) A (specialOf it "__next__") (fun r s'' => match r with | none => False | some _ => Q it s'') E s' | none => False) E s :=
    wpAny_bind (wpAny_mono go (fun v s' h' => wpAny_pure h') fun _ _ h' => h')
  have mid : wpAny (model prog w) A (callSpecialIfBoundUnlessNone? (.ref x) "__iter__" (do rule "iter.none"; raiseError "TypeError" s!"'{← typeNameOf (.ref x)}' object is not iterable")) (fun o s' => match o with | some it => wpAny (model prog w) A (specialOf it "__next__") (fun r s'' => match r with | none => False | some _ => Q it s'') E s' | none => False) E s := by
    simp only [callSpecialIfBoundUnlessNone?, bindSpecialIfBound?]
    refine wpAny_holding (wpAny_bind (wpAny_bind (wpAny_bind (I.type.here ((looks_findIn X (iter_find _)).here ?_)))))
    simp only [slot_list_iter.bind]
    refine wpAny_bind (wpAny_askSetting (wpAny_ite ?_))
    split
    · exact wpAny_bind (wpAny_pure (wpAny_pure (by exact fin)))
    · exact wpAny_tryCatch (wpAny_bind (wpAny_pure (wpAny_pure (by exact fin))))
  refine wpAny_bind (wpAny_mono mid (fun o s' h' => ?_) fun _ _ h' => h')
  cases o with
  | none => exact h'.elim
  | some it =>
    refine wpAny_bind (wpAny_mono h' (fun r s'' h'' => ?_) fun _ _ h'' => h'')
    cases r with
    | none => exact h''.elim
    | some _ => exact wpAny_pure h''
end
noncomputable def SeqAt (h : Heap) (x : Addr) (items : Array Value) : Prop := ∃ o n, h.get? x = some o ∧ o.data = .seq items n
theorem SeqAt.at {h h' : Heap} {x : Addr} {items : Array Value} (S : SeqAt h x items) (k : ∀ o, h.get? x = some o → h'.get? x = some o) : SeqAt h' x items := let ⟨o, n, e, d⟩ := S; ⟨o, n, k o e, d⟩
section
variable {prog : Program} {w : World} {A : Around} {E : Value → Shared → Prop} {s : Shared} {it l : Addr} {i : Nat} {items : Array Value}
/-- one turn of a list's iterator over any object that holds a row -/
theorem next_item {x : Value} {Q : Option Value → Shared → Prop} (hit : s.heap.IsListIter it l i) (hl : SeqAt s.heap l items) (hx : items[i]? = some x)
    (hQ : ∀ h', h'.IsListIter it l (i + 1) → Heap.SameBut it s.heap h' → Q (some x) { s with heap := h' }) : wpAny (model prog w) A (pyNext (.ref it)) Q E s := by
  have hit' := hit
  obtain ⟨o, ho, hc, hd⟩ := hit'
  obtain ⟨ol, nl, hol, hdl⟩ := hl
  unfold pyNext
  refine wpAny_bind (wpAny_attempt (wpAny_callSpecial?_slot (name := Str.ofString "__next__") hit.typeIs slot_listiter_next (wpAny_call_entry slot_listiter_next hit.typeIs entry_listiter_next ?_ (args_listiter_next _))))
  have e0 : (Value.ref l == Value.none) = false := rfl
  refine wpAny_bind (m := slotArgs "__next__" 0 _) (wpAny_pure (wpAny_bind (wpAny_field ho hd (x := .ref l) rfl ?_)))
  simp only [e0, Bool.false_eq_true, if_false]
  refine wpAny_bind (wpAny_field ho hd (x := .int i 0) rfl (wpAny_bind (wpAny_seqItems hol hdl ?_)))
  simp only [Int.toNat_natCast, hx]
  refine wpAny_bind (wpAny_setField ho hd (by simp) (wpAny_pure ⟨x, rfl, wpAny_pure (hQ _ ?_ (Heap.SameBut.update ..))⟩))
  refine ⟨_, Heap.get?_update_self _ ho (Obj.isFreed_of_fields (Obj.data_mapFields hd _)), (Obj.cls_mapFields ..).trans hc, ?_⟩
  rw [Obj.data_mapFields hd]; simp [rawInt]
theorem next_end {Q : Option Value → Shared → Prop} (hh : A.handled = none) (hit : s.heap.IsListIter it l i) (hl : SeqAt s.heap l items) (hx : items[i]? = none)
    (hQ : ∀ h', Heap.ExtBut it s.heap h' → Q none { s with heap := h' }) : wpAny (model prog w) A (pyNext (.ref it)) Q E s := by
  have hit' := hit
  obtain ⟨o, ho, hc, hd⟩ := hit'
  obtain ⟨ol, nl, hol, hdl⟩ := hl
  unfold pyNext
  refine wpAny_bind (wpAny_attempt (wpAny_callSpecial?_slot (name := Str.ofString "__next__") hit.typeIs slot_listiter_next (wpAny_call_entry slot_listiter_next hit.typeIs entry_listiter_next ?_ (args_listiter_next _))))
  have e0 : (Value.ref l == Value.none) = false := rfl
  refine wpAny_bind (m := slotArgs "__next__" 0 _) (wpAny_pure (wpAny_bind (wpAny_field ho hd (x := .ref l) rfl ?_)))
  simp only [e0, Bool.false_eq_true, if_false]
  refine wpAny_bind (wpAny_field ho hd (x := .int i 0) rfl (wpAny_bind (wpAny_seqItems hol hdl ?_)))
  simp only [Int.toNat_natCast, hx]
  refine wpAny_bind (wpAny_rule (wpAny_bind (wpAny_setField ho hd (by simp) ?_)))
  show wpAny _ _ (newExc (.type "StopIteration") [] >>= _) _ _ _
  refine wpAny_bind ?_
  simp only [newExc, newTuple]
  refine wpAny_bind (wpAny_newObj_type (wpAny_bind (m := firstArgMember _ _) (wpAny_of_eq (a := Value.none) (by first | rfl | (simp only [firstArgMember]; rfl)) (wpAny_newObj_type ?_ (by size_fits)))) (by size_fits))
  simp only [raiseNew]
  refine wpAny_bind (wpAny_handled ?_)
  rw [show A.in1.handled = none from hh]
  refine wpAny_bind (wpAny_pure (wpAny_throw ?_))
  refine wpAny_bind (wpAny_isInstance (T := "StopIteration") (b := true) ⟨_, Heap.get?_push_size _ rfl, rfl⟩ isSubtype_stop ?_)
  refine wpAny_pure (hQ _ ?_)
  exact ((Heap.SameBut.update ..).extBut.push _).push _
end
/-- the walk over a pile: pairs, from a list's iterator -/
theorem walk_pile {prog : Program} {w : World} {A : Around} (hh : A.handled = none) (I x : Addr) (hne : x ≠ I) (items : Array Value) (Ts : Nat → Addr) (vals : Nat → Array Value)
    (hit : ∀ j, j < items.size → items[j]? = some (.ref (Ts j))) (hTI : ∀ j, j < items.size → Ts j ≠ I) :
    WalksU prog w A I (I :: x :: (List.range items.size).map Ts) [I] items.size (fun j v => j < items.size ∧ v = vals j)
      (fun j h => h.IsListIter I x j ∧ SeqAt h x items ∧ ∀ k, k < items.size → h.IsTuple (Ts k) (vals k))
      (fun j T h => (j < items.size ∧ T = Ts j) ∧ h.IsListIter I x (j + 1) ∧ SeqAt h x items ∧ ∀ k, k < items.size → h.IsTuple (Ts k) (vals k)) where
  sub := fun b hb => by rw [List.mem_singleton.mp hb]; exact .head _
  frame := fun _ _ _ st hk => ⟨st.1.at fun o e => hk I (.head _) o e, st.2.1.at fun o e => hk x (.tail _ (.head _)) o e,
    fun k hk' => (st.2.2 k hk').at fun o e => hk (Ts k) (.tail _ (.tail _ (List.mem_map.mpr ⟨k, List.mem_range.mpr hk', rfl⟩))) o e⟩
  item := fun i s Q E hi st hQ => next_item st.1 st.2.1 (hit i hi) fun h' hit' hs' =>
    have tup : ∀ k, k < items.size → h'.IsTuple (Ts k) (vals k) := fun k hk' => (st.2.2 k hk').extBut hs'.extBut (hTI k hk')
    hQ (Ts i) (vals i) h' s.toks ⟨hi, rfl⟩ (tup i hi) ⟨⟨hi, rfl⟩, hit', st.2.1.at (fun o e => hs'.extBut x o hne e), tup⟩ fun b o hb e => hs'.extBut b o (fun q => hb (List.mem_singleton.mpr q)) e
  go := fun _ _ _ _ _ s Q _ hm hQ => wpAny_letOwnedTupleGo_listiter hm.2.1 (hQ s.heap hm.2 fun _ _ _ e => e)
  apart := fun j T _ hm hmem => hTI j hm.1.1 (hm.1.2 ▸ List.mem_singleton.mp hmem)
  done := fun s Q E st hQ => next_end hh st.1 st.2.1 (by simp) fun h' he' => hQ h' s.toks fun b o hb e => he' b o (fun q => hb (List.mem_singleton.mpr q)) e
  self := fun _ _ _ _ st hQ => wpAny_pyIter_listiter st.1 hQ
end Mine

end
section
open PySem PySem.W PyProof.Rows PySem.Calls PySem.Builtin
set_option maxRecDepth 100000
set_option maxHeartbeats 8000000
set_option pp.deepTerms false
set_option pp.maxSteps 1500
namespace Mine
noncomputable def TabOk (pos : Pos) (ps : Array Value) : Prop := TriplesOk ps.toList ∧ (codeAmong pos ps.toList = none → ps = #[])
theorem tabOk_nil (pos : Pos) : TabOk pos #[] := ⟨trivial, fun _ => rfl⟩
noncomputable def PairsAt (h : Heap) (vs : List Value) (ts : List (Str × Str)) : Prop := vs.length = ts.length ∧ ∀ (j : Nat) (p : Str × Str), ts[j]? = some p → ∃ (a : Addr) (t1 t2 : Tok), vs[j]? = some (Value.ref a) ∧ h.get? a = some (tup2 p.1 p.2 t1 t2)
theorem PairsAt.keeps {h h' : Heap} {vs : List Value} {ts : List (Str × Str)} (p : PairsAt h vs ts) (k : ∀ b o, o.cls = .type "tuple" → h.get? b = some o → h'.get? b = some o) : PairsAt h' vs ts :=
  ⟨p.1, fun j q e => let ⟨a, t1, t2, e1, e2⟩ := p.2 j q e; ⟨a, t1, t2, e1, k _ _ rfl e2⟩⟩
theorem passing_all (n : Nat) : passing (fun _ => true) n 0 = List.range n := by
  unfold passing
  rw [List.drop_zero]
  exact List.filter_eq_self.mpr fun _ _ => rfl
noncomputable def tAt (vs : List Value) (j : Nat) : Addr := match vs[j]? with | some (.ref a) => a | _ => 0
noncomputable def rowAt (h : Heap) (a : Addr) : Array Value := match h.get? a with | some ⟨_, _, .seq r _, _⟩ => r | _ => #[]
section
variable {prog : Program} {w : World} {A : Around} {E : Value → Shared → Prop} {s : Shared} {h₀ : Heap} {L x dx c P : Addr} {m mg mb : Str → Option Value} {vs : List Value} {ts : List (Str × Str)} {ep : Nat} {od : Obj} {ps : Array Value} {p : Program} {loose : List Str} {mean : ExcName → Option Value}
theorem gen_pile {env : Env} {elt iter : Expr} {xa xb : Str} {pa pb pt : Pos} {kt : Nat} {scope : Scope} {pos : Pos} {Q : Value → Shared → Prop} (Fv : Str × Str → Value → Prop)
    (F : Fr h₀ L s.heap m) (X : (Mine.frag.heap_1 w.params).In h₀) (T : Top p loose mean mg mb h₀) (C : CodeHd h₀ c P) (hP₀ : h₀.get? P = none) (hP : s.heap.get? P = some (tabObj ps)) (hps : TabOk pos ps)
    (hx : s.heap.get? x = some (pileO dx vs ep)) (hd : s.heap.get? dx = some od) (hxc : od.cls = .type "dict") (hts : PairsAt s.heap vs ts) (G : AllBare s.gens)
    (hcode : env.code = .ref c) (hglob : env.globals = mainGlobals) (hh : A.handled = none) (hroom : A.depth < recursionLimit)
    (hco : scope.isCoroutine = false) (hclos : closureFor scope env = pure []) (hcell : ∀ y ∈ scope.names, y.2 ≠ .cell) (h0 : scope.names.lookup (".0" : Str) = some NameKind.local)
    (hxa : scope.names.lookup xa = some .local) (hxb : scope.names.lookup xb = some .local) (hab : xa ≠ xb) (hkind : scope.kind = .function)
    (hs : ∀ x, genFold iter env x = pure x)
    (hiter : ∀ Q : Value → Shared → Prop, Q (.ref x) s → wpAny (model prog w) A (eval iter env) Q E s)
    (helt : ∀ (A' : Around) (E' : Value → Shared → Prop) (q : Str × Str) (t1 t2 : Tok) (D : Addr) (code : Value) (u : Shared) (m₂ : Str → Option Value), q ∈ ts → A'.handled = none → A'.depth ≤ A.depth + 1 → A'.units ≤ A.units + 8 →
      Fr h₀ D u.heap m₂ → m₂ xa = some (.str q.1 t1) → m₂ xb = some (.str q.2 t2) →
      wpAny (model prog w) A' (eval elt (genEnv scope [] D code builtinsNs env)) (fun y s₃ => Fv q y ∧ Keeps u s₃) E' u)
    (hQ : ∀ (a : Addr) (s₅ : Shared) (ps' : Array Value), (∀ b o, b ≠ P → s.heap.get? b = some o → s₅.heap.get? b = some o) → s₅.heap.get? P = some (tabObj ps') → TabOk pos ps' → AllBare s₅.gens → s₅.os = s.os → s₅.drawn = s.drawn →
      Fr h₀ L s₅.heap m → Gen prog w A (s.heap.objs.size - 1) a ts.length (fun j y => ∃ q, ts[j]? = some q ∧ Fv q y) s₅ → Q (.ref a) s₅) :
    wpAny (model prog w) A (eval (.GeneratorExp elt [⟨.Tuple [.Name xa pa, .Name xb pb] kt pt, iter, [], 0⟩] scope pos) env) Q E s := by
  refine wpAny_GeneratorExp_walksQTD hh hco hclos hcell h0 hxa hxb hab hkind hroom (hiter _ ?_) hs
  refine iter_pile (X.keeps F.keep) hx hd ?_
  have lim : (s.heap.push { cls := .type "list_iterator", data := .fields #[.ref x, .int 0 0] } : Heap).NoLimit := (T.nolimit.keeps F.keep).push _
  refine ⟨lim, ?_⟩
  generalize hH : s.heap.push { cls := .type "list_iterator", data := .fields #[.ref x, .int 0 0] } = H
  have hsz : H.objs.size = s.heap.objs.size + 1 := by rw [← hH, Heap.size_push]
  have up : ∀ b o, s.heap.get? b = some o → H.get? b = some o := fun b o e => hH ▸ Heap.get?_push_of_some _ e
  have hI : H.get? s.heap.objs.size = some { cls := .type "list_iterator", data := .fields #[.ref x, .int 0 0] } := hH ▸ Heap.get?_push_size _ rfl
  have hPlt : P < s.heap.objs.size := Heap.lt_size hP
  have ne₀ : ∀ b o, h₀.get? b = some o → b ≠ P := fun b o e q => by rw [q, hP₀] at e; cases e
  have hLP : L ≠ P := fun q => by
    obtain ⟨o, es, e2, e, hd', _⟩ := F.ns
    rw [q, hP] at e; cases e; cases hd'
  have cI := (C.keeps F.keep).keeps up
  -- what follows the code object
  have rest : ∀ (code : Value) (h₃ : Heap) (tk₃ : Nat) (ps' : Array Value), Heap.ExtBut P H h₃ → H.objs.size ≤ h₃.objs.size → h₃.get? P = some (tabObj ps') → TabOk pos ps' →
      wpAny (model prog w) A (builtinsFor env.globals env.builtins) (fun bi s₄ =>
        ∃ I fp wr n₀ Pt St₀ Mid pz F', Value.ref s.heap.objs.size = .ref I ∧ (∀ A' : Around, A'.handled = none → WalksU prog w A' I fp wr n₀ Pt St₀ Mid) ∧ (∀ i vals, Pt i vals → ∃ va vb, vals = #[va, vb]) ∧ St₀ 0 s₄.heap ∧ (∀ b ∈ fp, b < s₄.heap.objs.size) ∧ s₄.heap.NoLimit ∧ cStatics ∉ wr ∧
          (∀ href : Heap, (∀ b o, s₄.heap.get? b = some o → href.get? b = some o) →
            QuietGenTD prog w (genEnv scope [] s₄.heap.objs.size code bi env) xa xb [] elt (List.range s₄.heap.objs.size) wr Pt pz F' href (A.depth + 1) (A.units + 8)) ∧
          (∀ a h₅ tk gs, gs.bare = true → s₄.heap.objs.size < a → h₅.objs.size = a + 1 → (∀ b o, s₄.heap.get? b = some o → h₅.get? b = some o) →
            WalksS prog w A.in4 a (a :: s₄.heap.objs.size :: List.range s₄.heap.objs.size) (s₄.heap.objs.size :: wr) (GenOnlyQ s₄.gens.size) (passing pz n₀ 0).length
              (fun j y => ∃ i, (passing pz n₀ 0)[j]? = some i ∧ F' i y) (GenAt prog w A.in4 a s₄.gens.size s₄.heap.objs.size (List.range s₄.heap.objs.size) wr pz n₀ F') →
            GenAt prog w A.in4 a s₄.gens.size s₄.heap.objs.size (List.range s₄.heap.objs.size) wr pz n₀ F' 0 { s₄ with gens := s₄.gens.push gs, toks := tk, heap := h₅ } →
            Q (.ref a) { s₄ with gens := s₄.gens.push gs, toks := tk, heap := h₅ })) E { s with heap := h₃, toks := tk₃ } := by
    intro code h₃ tk₃ ps' hx₃ hsz₃ hP₃ ok'
    have hsz4 : s.heap.objs.size + 1 ≤ h₃.objs.size := by rw [← hsz]; exact hsz₃
    have old : ∀ b o, b ≠ P → s.heap.get? b = some o → h₃.get? b = some o := fun b o hb e => hx₃ b o hb (up b o e)
    have k₀ : ∀ b o, h₀.get? b = some o → h₃.get? b = some o := fun b o e => old b o (ne₀ b o e) (F.keep b o e)
    obtain ⟨bm, ob, b1, b2, b3, b4, b5, b6⟩ := T.bmain
    refine wpAny_builtinsFor (hglob ▸ T.g.keeps k₀) b1 b2 (k₀ _ _ b3) b4 b5 b6 ?_
    have hxP : x ≠ P := fun q => by rw [q, hP] at hx; cases hx
    have hvs : vs.toArray.size = ts.length := by rw [List.size_toArray]; exact hts.1
    have at' : ∀ j, j < ts.length → ∃ q a t1 t2, ts[j]? = some q ∧ vs[j]? = some (.ref a) ∧ s.heap.get? a = some (tup2 q.1 q.2 t1 t2) ∧ tAt vs j = a ∧ rowAt s.heap (tAt vs j) = #[.str q.1 t1, .str q.2 t2] := fun j hj => by
      obtain ⟨a, t1, t2, e1, e2⟩ := hts.2 j ts[j] (List.getElem?_eq_getElem hj)
      have e3 : tAt vs j = a := by unfold tAt; rw [e1]
      refine ⟨_, a, t1, t2, List.getElem?_eq_getElem hj, e1, e2, e3, ?_⟩
      rw [e3]; unfold rowAt; rw [e2]; rfl
    have hTs : ∀ j, j < vs.toArray.size → h₃.IsTuple (tAt vs j) (rowAt s.heap (tAt vs j)) := fun j hj => by
      obtain ⟨q, a, t1, t2, e0, e1, e2, e3, e4⟩ := at' j (hvs ▸ hj)
      rw [e4, e3]
      exact ⟨_, old _ _ (fun r => by rw [r, hP] at e2; cases e2) e2, rfl, _, rfl⟩
    have hTlt : ∀ j, j < vs.toArray.size → tAt vs j < s.heap.objs.size := fun j hj => by
      obtain ⟨q, a, t1, t2, e0, e1, e2, e3, e4⟩ := at' j (hvs ▸ hj)
      rw [e3]; exact Heap.lt_size e2
    have hIP : s.heap.objs.size ≠ P := Ne.symm (Nat.ne_of_lt hPlt)
    refine ⟨s.heap.objs.size, _, _, vs.toArray.size, _, _, _, (fun _ => true), (fun i y => ∃ q, ts[i]? = some q ∧ Fv q y), rfl, (fun A' hA => walk_pile (prog := prog) (w := w) hA s.heap.objs.size x (Nat.ne_of_lt (Heap.lt_size hx)) vs.toArray (tAt vs) (fun j => rowAt s.heap (tAt vs j)) (fun j hj => ?_) fun j hj => Nat.ne_of_lt (hTlt j hj)), ?_, ⟨?_, ?_, hTs⟩, ?_, ?_, ?_, ?_, ?_⟩
    · obtain ⟨q, a, t1, t2, e0, e1, e2, e3, e4⟩ := at' j (hvs ▸ hj)
      rw [e3, List.getElem?_toArray]; exact e1
    · rintro i vals ⟨hi, rfl⟩
      obtain ⟨q, a, t1, t2, e0, e1, e2, e3, e4⟩ := at' i (hvs ▸ hi)
      exact ⟨_, _, e4⟩
    · exact ⟨_, hx₃ _ _ hIP hI, rfl, rfl⟩
    · exact ⟨_, _, old _ _ hxP hx, rfl⟩
    · intro b hb
      show b < h₃.objs.size
      refine Nat.lt_of_lt_of_le ?_ hsz4
      rcases List.mem_cons.mp hb with rfl | hb
      · exact Nat.lt_succ_self _
      · rcases List.mem_cons.mp hb with rfl | hb
        · exact Nat.lt_succ_of_lt (Heap.lt_size hx)
        · obtain ⟨k, hk, rfl⟩ := List.mem_map.mp hb
          exact Nat.lt_succ_of_lt (hTlt k (List.mem_range.mp hk))
    · exact T.nolimit.keeps k₀
    · intro hm
      have hc : cStatics < s.heap.objs.size := let ⟨_, hn, _⟩ := T.nolimit.keeps F.keep; hn.lt
      exact Nat.lt_irrefl _ (List.mem_singleton.mp hm ▸ hc)
    · intro href hhref
      have fr : ∀ (u : Shared) (m₂ : Str → Option Value), u.heap.Ns h₃.objs.size m₂ → (∀ b ∈ List.range h₃.objs.size, b ∉ [s.heap.objs.size] → ∀ o, href.get? b = some o → u.heap.get? b = some o) → Fr h₀ h₃.objs.size u.heap m₂ := fun u m₂ hn hk =>
        ⟨hn, fun b o e => hk b (List.mem_range.mpr (Heap.lt_size (k₀ b o e))) (fun hm => Nat.lt_irrefl _ (List.mem_singleton.mp hm ▸ Heap.lt_size (F.keep b o e))) o (hhref b o (k₀ b o e)),
          Nat.le_trans F.above (Nat.le_trans (Nat.le_of_lt F.ns.lt) (Nat.le_trans (Nat.le_succ _) hsz4))⟩
      constructor
      · intro A' E' i va vb u m₂ hA hD hU hP hn h1 h2 hk
        exact wpAny_tests_nil ⟨rfl, u.heap, u.toks, rfl, fun _ _ e => e⟩
      · intro A' E' i va vb u m₂ hA hD hU hPt hz hn h1 h2 hk
        obtain ⟨hi, e⟩ := hPt
        obtain ⟨q, a, t1, t2, e0, e1, e2, e3, e4⟩ := at' i (hvs ▸ hi)
        rw [e4] at e
        obtain ⟨rfl, rfl⟩ : va = .str q.1 t1 ∧ vb = .str q.2 t2 := by simpa using congrArg Array.toList e
        exact wpAny_mono (helt A' E' q t1 t2 _ code u m₂ (List.mem_of_getElem? e0) hA hD hU (fr u m₂ hn hk) h1 h2) (fun y s₃ r => ⟨⟨q, e0, r.1⟩, r.2⟩) fun _ _ e => e
    · intro a h₅ tk gs hgb hag hsz₅ hk₅ W hat
      have hag' : h₃.objs.size < a := hag
      have sz3 : s.heap.objs.size < h₃.objs.size := Nat.lt_of_lt_of_le (Nat.lt_succ_self _) hsz4
      have hLlt : L < s.heap.objs.size := F.ns.lt
      refine hQ a _ ps' (fun b o hb e => hk₅ b o (old b o hb e)) (hk₅ _ _ hP₃) ok' (G.push hgb) rfl rfl ⟨F.ns.at' fun o e => hk₅ _ _ (old _ _ hLP e), fun b o e => hk₅ b o (k₀ b o e), F.above⟩ ?_
      have e1 : (passing (fun _ => true) vs.toArray.size 0).length = ts.length := by rw [passing_all, List.length_range, hvs]
      have W' := W
      rw [e1] at W'
      have cv : ∀ (i : Nat) (v : Value), (∃ i', (passing (fun _ => true) vs.toArray.size 0)[i]? = some i' ∧ ∃ q, ts[i']? = some q ∧ Fv q v) → ∃ q, ts[i]? = some q ∧ Fv q v := by
        rintro i v ⟨i', e2, q, e3, e4⟩
        rw [passing_all] at e2
        obtain ⟨hlt, e5⟩ := List.getElem?_eq_some_iff.mp e2
        rw [List.getElem_range] at e5
        subst e5
        exact ⟨q, e3, e4⟩
      have W2 : WalksS prog w A.in4 a _ _ _ ts.length (fun j y => ∃ q, ts[j]? = some q ∧ Fv q y) _ := { W' with item := fun i s' Q' E' hi st hQ' => W'.item i s' Q' E' hi st fun v s'' hP' st' hm => hQ' v s'' (cv i v hP') st' hm }
      refine ⟨_, _, _, _, W2, hat, (fun i s' st => st.1.typeIs), List.mem_cons_self, ?_, ?_⟩
      · intro b hb
        show b < h₅.objs.size
        rw [hsz₅]
        rcases List.mem_cons.mp hb with rfl | hb
        · exact Nat.lt_succ_self _
        · rcases List.mem_cons.mp hb with rfl | hb
          · exact Nat.lt_succ_of_lt hag'
          · exact Nat.lt_succ_of_lt (Nat.lt_trans (List.mem_range.mp hb) hag')
      · intro b hb
        rcases List.mem_cons.mp hb with rfl | hb
        · show _ < h₃.objs.size
          exact Nat.lt_of_le_of_lt (Nat.sub_le _ _) sz3
        · rw [List.mem_singleton.mp hb]
          exact Nat.sub_lt (Nat.lt_of_le_of_lt (Nat.zero_le _) hLlt) Nat.one_pos
  cases hf : codeAmong pos ps.toList with
  | some v => exact wpAny_genexprCode_hit hcode (cI.code (up _ _ hP) hps.1) hf (rest v H s.toks ps (Heap.ExtBut.refl _ _) (Nat.le_refl _) (up _ _ hP) hps)
  | none =>
    refine wpAny_genexprCodeX hcode (cI.code (up _ _ hP) hps.1) (cI.tab (up _ _ hP)) hf fun c' h₃ tk₃ hx₃ hge hlt hcode₃ _ htab₃ _ => ?_
    refine rest (.ref c') h₃ tk₃ _ hx₃ (Nat.le_trans hge (Nat.le_of_lt hlt)) htab₃.2 ⟨?_, fun e => ?_⟩
    · rw [Array.toList_append]; exact TriplesOk_snoc _ _ _ _ hps.1
    · exfalso
      have := codeAmong_snoc (c := .ref c') _ hps.1 hf
      rw [Array.toList_append] at e
      have e' : codeAmong pos (ps.toList ++ [rawInt pos.line, rawInt pos.col, .ref c']) = none := e
      rw [this] at e'; cases e'
end
end Mine

end
section
open PySem PySem.W PyProof.Rows PySem.Calls PySem.Builtin
set_option maxRecDepth 100000
set_option maxHeartbeats 8000000
set_option pp.deepTerms false
set_option pp.maxSteps 1500
namespace Mine
theorem args_sum2 (a b : Value) : argsOk "sum" ⟨[a, b], []⟩ := by unfold argsOk; kernel_rfl
section
variable {prog : Program} {w : World} {A : Around} {E : Value → Shared → Prop} {s : Shared} {h₀ : Heap} {L Kb a : Addr} {m : Str → Option Value} {n : Nat} {F : Nat → Value → Prop}
theorem sum_from0 {x : Value} {t0 : Tok} {Q : Value → Shared → Prop}
    (h : wpAny (model prog w) A.in1 (pyIter x) (fun it s₂ => ∃ I fp wr G n P St val, it = .ref I ∧ WalksS prog w A.in1 I fp wr G n P St ∧ St 0 s₂ ∧ (∀ b ∈ fp, b < s₂.heap.objs.size) ∧
      (∀ i v, P i v → ∃ t, v = .int (val i) t) ∧ (∀ j, j < n → InLong (val j) ∧ InLong (preSum val (j + 1))) ∧
      ∀ s' t', Moved wr G s₂ s' → Q (.int (preSum val n) t') s') E s) :
    wpAny (model prog w) A (call (.builtin "sum") [x, .int 0 t0]) Q E s := by
  refine call_function_tree PySem.F.kind_sum PySem.F.plain_sum PySem.F.entry_sum (args_sum2 _ _) ?_
  unfold Builtin.«sum»
  simp only [List.length_cons, List.length_nil]
  rw [if_neg (by decide)]
  refine wpAny_bind (wpAny_of_eq (show Builtin.Builtins.bindParams "sum" ["start"] 0 ⟨[.int 0 t0], []⟩ = pure [some (.int 0 t0)] from rfl) ?_)
  refine wpAny_bind (wpAny_mono h (fun it s₂ h₂ => ?_) fun _ _ e => e)
  obtain ⟨I, fp, wr, G, n, P, St, val, rfl, W, hst, hfp, hval, hfit, hQ⟩ := h₂
  dsimp only
  rw [if_pos (by decide)]
  refine wpAny_bind (wpAny_rule ?_)
  refine wpAny_bind (wpAny_mkInt ?_)
  refine wpAny_bind (wpAny_pure ?_)
  have no : ∀ (ty : String) (s' : Shared) (Q : Bool → Shared → Prop), isSubtype (.type "int") (.type ty) = pure false → Q false s' → wpAny (model prog w) A.in1 (isInstance (.int 0 s₂.toks) (.type ty)) Q E s' := fun ty s' Q e q => wpAny_isInstance (T := "int") (b := false) (typeIs_int _ _ _) e q
  simp only [List.forIn_cons, List.forIn_nil]
  refine wpAny_bind (wpAny_bind (wpAny_bind (no _ _ _ PySem.sub_int_str ?_)))
  simp only [Bool.false_eq_true, if_false]
  refine wpAny_pure (wpAny_bind (wpAny_bind (no _ _ _ PySem.sub_int_bytes ?_)))
  simp only [Bool.false_eq_true, if_false]
  refine wpAny_pure (wpAny_bind (wpAny_bind (no _ _ _ PySem.sub_int_bytearray ?_)))
  simp only [Bool.false_eq_true, if_false]
  refine wpAny_pure (wpAny_pure (wpAny_bind (wpAny_newObj_type ?_)))
  have hS : s₂.heap.objs.size ∉ fp := fun hm => Nat.lt_irrefl _ (hfp _ hm)
  refine wpAny_pure ⟨plainId_quiet PySem.F.plain_sum_loop _, codeAny_sum_loopS W val hval hfit s₂.heap.objs.size hS n 0 _ s₂.toks 0 rfl (Nat.zero_le _)
    (W.frame 0 s₂ _ _ hst (by first | exact Nat.le_refl _ | exact Nat.le_succ _ | omega) fun b _ o e => Heap.get?_push_of_some _ e) (Heap.get?_push_size _ rfl) fun s' t' hm => ?_⟩
  exact hQ s' t' (hm.drop_new (by first | exact Nat.le_refl _ | exact Nat.le_succ _ | omega))
theorem sum_pile {t0 : Tok} {Q : Value → Shared → Prop} (Fh : Fr h₀ L s.heap m) (G : AllBare s.gens) (X : Gen prog w A Kb a n F s) (hLK : L ≤ Kb) (val : Nat → Int) (hval : ∀ j v, F j v → ∃ t, v = .int (val j) t) (hfit : ∀ j, j < n → InLong (val j) ∧ InLong (preSum val (j + 1)))
    (hQ : ∀ s' t', Fr h₀ L s'.heap m → AllBare s'.gens → s'.os = s.os → s'.drawn = s.drawn → (∀ b o, b ≤ Kb → s.heap.get? b = some o → s'.heap.get? b = some o) → Q (.int (preSum val n) t') s') : wpAny (model prog w) A (call (.builtin "sum") [.ref a, .int 0 t0]) Q E s := by
  obtain ⟨fp, wr, g, St, W, hst, _, _, hfp, hwr⟩ := X
  have W := W.in4_1
  exact sum_from0 (W.self 0 _ _ _ hst ⟨a, _, _, _, _, _, _, val, rfl, W, hst, hfp, hval, hfit, fun s' t' hm => hQ s' t' (Fh.moved hm fun b hb => Nat.lt_of_le_of_lt hLK (hwr b hb)) (G.movedS hm) hm.os hm.drawn fun b o hb e => hm.heap b o (fun hmem => Nat.lt_irrefl _ (Nat.lt_of_lt_of_le (hwr b hmem) hb)) e⟩)
end
end Mine

end
section
open PySem PySem.W PyProof.Rows PySem.Calls
set_option maxRecDepth 100000
set_option maxHeartbeats 8000000
set_option pp.deepTerms false
set_option pp.maxSteps 2500
namespace Mine
section
variable {M : Model} {A : Around} {E : Value → Shared → Prop} {s : Shared} {h₀ : Heap} {D : Addr} {m mg mb : Str → Option Value} {env : Env} {x : Str} {pos : Pos} {v : Value} {Q : Value → Shared → Prop} {K : Frag} {p : Program} {loose : List Str} {mean : ExcName → Option Value}
theorem nameG_L (F : Fr h₀ D s.heap m) (hv : m x = some v) (h : Q v s) (he : env.locals = D) (hk : env.scope.kind = .function) (hx : env.kindOf x = some .local) (hd : (x == ("__debug__" : Str)) = false) : wpAny M A (eval (.Name x pos) env) Q E s :=
  wpAny_Name (wpAny_loadName_local hk hx (by rw [he]; exact F.ns) hv h) hd
theorem nameG_B (F : Fr h₀ D s.heap m) (X : K.In h₀) (T : Top p loose mean mg mb h₀) (e : nsIn K mainGlobals x = some none) (hv : bootBuiltins x = some v) (hn : x ≠ "__name__") (h : Q v s)
    (hg : env.globals = mainGlobals) (hb : env.builtins = builtinsNs) (hk : env.scope.kind = .function) (hx : env.kindOf x = some .globalImplicit) (hd : (x == ("__debug__" : Str)) = false) : wpAny M A (eval (.Name x pos) env) Q E s :=
  Name_function_global hk hx (loadGlobal_builtin (env := env) (by rw [hg]; exact T.g.keeps F.keep) (mg_none_of X T.g e) (by rw [hb]; exact T.b.keeps F.keep) ((T.builtins x hn).trans hv) h) hd
end
local macro_rules | `(tactic| walk_at "eval Name") => `(tactic| ((with_reducible show wpAny _ _ (eval (Expr.Name _ _) (genEnv _ _ _ _ _ _)) _ _ _); (with_reducible rename Fr _ _ _ _ => gF); (with_reducible rename Frag.In _ _ => gX); (with_reducible rename Top _ _ _ _ _ _ => gT); first
  | (refine nameG_L gF (by assumption) ?_ rfl rfl rfl (by decide))
  | (refine' nameG_K gF gX (topRead_of gT) ?k1 ?_ ?k2 ?k3 ?k4 ?k5; (case k1 => k_is); (case k2 => rfl); (case k3 => rfl); (case k4 => rfl); (case k5 => decide))
  | (refine' nameG_B gF gX gT ?k1 ?k6 ?k7 ?_ ?k2 ?k8 ?k3 ?k4 ?k5; (case k1 => k_is); (case k6 => boot_fast); (case k7 => decide); (case k2 => rfl); (case k8 => rfl); (case k3 => rfl); (case k4 => rfl); (case k5 => decide))))
theorem tuple_push {M : Model} {A : Around} {E : Value → Shared → Prop} {s : Shared} {h₀ : Heap} {L : Addr} {m : Str → Option Value} {news : List (Addr × Obj)} {vs : List Value} {Q : Value → Shared → Prop} (F : Fr h₀ L s.heap m) (N : News h₀ L s.heap news)
    (h : Fr h₀ L (s.heap.push { cls := .type "tuple", data := .seq vs.toArray }) m → News h₀ L (s.heap.push { cls := .type "tuple", data := .seq vs.toArray }) ((s.heap.objs.size, { cls := .type "tuple", data := .seq vs.toArray }) :: news) → Q (.ref s.heap.objs.size) { s with heap := s.heap.push { cls := .type "tuple", data := .seq vs.toArray } }) (hsz : vs.length ≤ sizeLine) :
    wpAny M A (newTuple vs) Q E s := wpAny_newObj_type (h (F.push _) (N.push F _)) (by show vs.toArray.size ≤ sizeLine; rw [List.size_toArray]; exact hsz)
noncomputable def textOf (ts : List (Str × Str)) : Str := Txt.join Str.empty (ts.map fun q => Txt.join Str.empty [q.1, q.2])
noncomputable def Halt (p : Prop) : Prop := p
theorem halt {p : Prop} (h : Halt p) : p := h
theorem subG {s g h₀ : Heap} {hid : List Addr} (hg2 : ∀ b o, s.get? b = some o → b ∉ hid → g.get? b = some o) (hk0 : ∀ b o, h₀.get? b = some o → s.get? b = some o) (hn : ∀ b ∈ hid, h₀.get? b = none) : ∀ b o, h₀.get? b = some o → g.get? b = some o :=
  fun b o e => hg2 b o (hk0 b o e) fun q => by rw [hn b q] at e; cases e
theorem range_map {α β : Type} (l : List α) (d : α) (f : α → β) : (List.range l.length).map (fun j => f (l.getD j d)) = l.map f := by
  apply List.ext_getElem
  · simp
  · intro i h1 h2
    simp at h1
    simp [List.getD_eq_getElem?_getD, h1]
noncomputable def strPos : Pos := ⟨72, 32, 72, 85⟩
theorem news3 {s g h₁ : Heap} {x dx P L' : Addr} {ox od oP : Obj} (hg3 : ∀ b ∈ ([x, dx, P] : List Addr), g.get? b = none) (hL : s.objs.size = L') (hk : ∀ b o, s.get? b = some o → h₁.get? b = some o) (hx : s.get? x = some ox) (hd : s.get? dx = some od) (hP : s.get? P = some oP) : News g L' h₁ [(x, ox), (dx, od), (P, oP)] := by
  intro p hp
  rcases List.mem_cons.mp hp with rfl | hp
  · exact ⟨hk _ _ hx, by rw [← hL]; exact Nat.ne_of_lt (Heap.lt_size hx), hg3 _ (.head _)⟩
  · rcases List.mem_cons.mp hp with rfl | hp
    · exact ⟨hk _ _ hd, by rw [← hL]; exact Nat.ne_of_lt (Heap.lt_size hd), hg3 _ (.tail _ (.head _))⟩
    · rcases List.mem_cons.mp hp with rfl | hp
      · exact ⟨hk _ _ hP, by rw [← hL]; exact Nat.ne_of_lt (Heap.lt_size hP), hg3 _ (.tail _ (.tail _ (.head _)))⟩
      · cases hp
local macro_rules | `(tactic| walk_at $s:str) => if ["eval GeneratorExp"].contains s.getString then `(tactic| (refine halt ?_)) else Lean.Macro.throwUnsupported
local macro_rules | `(tactic| walk_at "newTuple") => `(tactic| (k_here; refine' tuple_push ?F ?N ?_ ?z; (case F => k_asm); (case N => k_asm); (case z => decide); intro F' N'))
local macro_rules | `(tactic| walk_at "call builtin:str.join") => `(tactic| (k_here; (with_reducible show wpAny _ _ (PySem.call _ [_, Value.ref _]) _ _ _); (with_reducible rename News _ _ _ _ => jN'); refine' join_tuple (ys := [_, _]) ⟨_, (jN' _ (.head _)).1, rfl, _, rfl⟩ (.cons _ _ (.cons _ _ .nil)) ?z ?_; (case z => assumption); intro t' k'))
local macro_rules | `(tactic| walk_at "call builtin:str.join") => `(tactic| ((with_reducible rename Gen _ _ _ _ _ _ _ _ => jX'); refine halt ?_))
theorem c_str : ∀ (w : World) (p : Program) (loose : List Str) (mean : ExcName → Option Value) (mg mb : Str → Option Value) (A : Around) (s : Shared) (Q : Value → Shared → Prop) (E : Value → Shared → Prop) (h₀ : Heap) (x dx : Addr) (vs : List Value) (ep : Nat) (hs : Int) (tk t : Tok) (ts : List (Str × Str)) (ps : Array Value),
   (Mine.frag.heap_1 w.params).In h₀ → Top p loose mean mg mb h₀ → CodeHd h₀ 95 91 → (∀ b o, h₀.get? b = some o → s.heap.get? b = some o) → h₀.get? x = none → h₀.get? dx = none → h₀.get? 91 = none → x ≠ dx →
   s.heap.get? x = some (pileO dx vs ep) → s.heap.get? dx = some (dictP hs tk t) → s.heap.get? 91 = some (tabObj ps) → PairsAt s.heap vs ts → TabOk strPos ps → (∀ q ∈ ts, q.1.length + q.2.length ≤ 1000) → JoinOk Str.empty (ts.map fun q => Txt.join Str.empty [q.1, q.2]) = true → ts.length ≤ sizeLine → AllBare s.gens → A.handled = none → A.depth + 8 < recursionLimit → A.units + 64 < cLine →
   (∀ s' t ps', (∀ b o, b ≠ 91 → s.heap.get? b = some o → s'.heap.get? b = some o) → s'.heap.get? 91 = some (tabObj ps') → TabOk strPos ps' → AllBare s'.gens → s'.os = s.os → Q (.str (textOf ts) t) s') →
   wpAny (model PySem.Challenge.rw_wu0023_01.row.prog w) A (PySem.call (.ref 96) [.ref x]) Q E s := by
  k_fill
  intro w p loose mean mg mb A s Q E h₀ x dx vs ep hs tk t ts ps X T C hk0 hx0 hd0 hP0 hxd hx hdx hP hts hps hlen hfit hsz G hA0 hA hu hret
  obtain ⟨hd, dp, fr, gd, un⟩ := A
  dsimp only at hA0 hA hu
  subst hA0
  have hn : ∀ b ∈ ([x, dx, 91] : List Addr), h₀.get? b = none := by
    intro b hb; rcases List.mem_cons.mp hb with rfl | hb; exact hx0; rcases List.mem_cons.mp hb with rfl | hb; exact hd0; rcases List.mem_cons.mp hb with rfl | hb; exact hP0; cases hb
  refine wpAny_call ?_
  refine' enterH [x, dx, 91] h₀ hk0 ?hn X T ?k6 ?k7 (by dsimp only; omega) ?k9 ?kB ?_ ?c2 ?c3 ?c4 ?c5
  case hn => exact hn
  case k6 => k_is
  case k7 => k_is
  case k9 => exact BindsTo.of_eq rfl
  case c5 => decide
  case kB => exact locs rfl
  case c2 => exact rfl
  case c3 => exact rfl
  case c4 => exact rfl
  intro g h₁ L' hg1 hg2 hg3 hL hk F X' T'
  dsimp only
  have N := news3 hg3 hL hk hx hdx hP
  k_steps
  change wpAny _ _ _ _ _ _
  (with_reducible rename Fr _ _ _ _ => F2)
  (with_reducible rename Frag.In _ _ => X2)
  (with_reducible rename Top _ _ _ _ _ _ => T2)
  refine' gen_pile (xa := "fws") (xb := "part") (fun q v => ∃ t, v = .str (Txt.join Str.empty [q.1, q.2]) t) F2 X2 T2 (C.keeps (subG hg2 hk0 hn)) (hg3 91 (.tail _ (.tail _ (.head _)))) (hk _ _ hP) hps (hk _ _ hx) (hk _ _ hdx) rfl (hts.keeps fun b o _ e => hk b o e) G rfl rfl rfl ?room rfl rfl ?hcell rfl rfl rfl ?hab rfl ?hs ?hiter ?helt ?hQ
  case room => simp only [depth_deeper]; omega
  case hcell => decide
  case hab => decide
  case hs => intro _; rfl
  case hiter =>
    intro Q hq
    k_steps
    exact hq
  case helt =>
    intro A' E' q t1 t2 D code u m₂ hq hA hD hU F3 h1 h2
    have N3 : News g D u.heap [] := News.nil
    have hl2 : ([q.1, q.2].map (·.length)).sum + [q.1, q.2].length * (Str.ofString "").length ≤ 16777216 := by
      have := hlen q hq
      have e0 : (Str.ofString "").length = 0 := by decide +kernel
      simp [e0]
      omega
    clear F2
    obtain ⟨hd9, dp9, fr9, gd9, un9⟩ := A'
    dsimp only at hA
    subst hA
    (with_reducible rename Frag.In _ _ => X3)
    (with_reducible rename Top _ _ _ _ _ _ => T3)
    walk_at "eval Call Attribute"
    refine' nameG_K F3 X3 (topRead_of T3) ?n1 ?_ ?n2 ?n3 ?n4 ?n5
    case n1 => k_is
    case n2 => rfl
    case n3 => rfl
    case n4 => rfl
    case n5 => decide
    walk_at "getMethod str"
    walk_at "callWith"
    walk_at "spliced"
    walk_at "eval Tuple"
    walk_at "spliced"
    refine nameG_L F3 h1 ?_ rfl rfl rfl (by decide)
    walk_at "spliced"
    refine nameG_L F3 h2 ?_ rfl rfl rfl (by decide)
    walk_at "spliced"
    refine tuple_push F3 N3 (fun F4 N4 => ?_) (show 2 ≤ 2 ^ 24 by decide)
    walk_at "spliced"
    refine join_tuple (ys := [q.1, q.2]) ⟨_, (N4 _ (.head _)).1, rfl, _, rfl⟩ (.cons _ _ (.cons _ _ .nil)) hl2 fun t' k' => ?_
    exact ⟨⟨_, rfl⟩, _, _, rfl, fun b o e => Heap.get?_push_of_some _ e⟩
  case hQ =>
    intro a s₅ ps' hk5 hP5 ok5 G5 hos5 hdr5 F5 X5
    have k5 : ∀ b o, b ≠ 91 → s.heap.get? b = some o → s₅.heap.get? b = some o := fun b o hb e => hk5 b o hb (hk b o e)
    walk_at "spliced"
    refine join_rowsK (K := h₁.objs.size - 1) F5 G5 X5 ?hLK (fun j => Txt.join Str.empty [(ts.getD j default).1, (ts.getD j default).2]) ?htx ?hok (fun s' t' F6 G6 hos6 hk6 => ?_) ?hsz
    case hLK => exact Nat.le_sub_one_of_lt F2.ns.lt
    case htx => rintro j v ⟨q, e, t, rfl⟩; exact ⟨t, by rw [List.getD_eq_getElem?_getD, e]; rfl⟩
    case hok => rw [range_map ts default (fun q => Txt.join Str.empty [q.1, q.2])]; exact hfit
    case hsz => exact hsz
    rw [range_map ts default (fun q => Txt.join Str.empty [q.1, q.2])]
    have lt1 : ∀ b o, h₁.get? b = some o → b ≤ h₁.objs.size - 1 := fun b o e => Nat.le_sub_one_of_lt (Heap.lt_size e)
    exact hret s' t' ps' (fun b o hb e => hk6 b o (lt1 b o (hk b o e)) (k5 b o hb e)) (hk6 _ _ (lt1 _ _ (hk _ _ hP)) hP5) ok5 G6 (hos6.trans hos5)
end Mine

end
section
open PySem PySem.W PyProof.Rows PySem.Calls
set_option maxRecDepth 100000
set_option maxHeartbeats 8000000
set_option pp.deepTerms false
set_option pp.maxSteps 2500
namespace Mine
noncomputable def lenPos : Pos := ⟨69, 19, 69, 63⟩
theorem find_size (P : Params) (hs : Int) (tk t : Tok) : findObj (Mine.frag.heap_1 P) 122 (some (dictP hs tk t)) (Str.ofString "_initial_size") = some (.value (.int 0 t)) := by kernel_rfl
theorem genToks {prog : Program} {w : World} {A : Around} {K a : Addr} {n : Nat} {F : Nat → Value → Prop} {s : Shared} {tk : Nat} (X : Gen prog w A K a n F s) (h : s.toks ≤ tk) : Gen prog w A K a n F { s with toks := tk } :=
  let ⟨fp, wr, g, St, W, h1, h2, h3, h4, h5⟩ := X; ⟨fp, wr, g, St, W, W.frame 0 s s.heap tk h1 h fun _ _ _ e => e, h2, h3, h4, h5⟩
noncomputable def sizeOf (ts : List (Str × Str)) : Int := ((ts.map fun q => q.1.length + q.2.length).sum : Nat)
theorem presum_eq (ts : List (Str × Str)) : ∀ j, j ≤ ts.length → preSum (fun j => (((ts.getD j default).1.length + (ts.getD j default).2.length : Nat) : Int)) j = ((((ts.take j).map fun q => q.1.length + q.2.length).sum : Nat) : Int)
  | 0, _ => by simp [preSum]
  | j + 1, h => by
    have hj : j < ts.length := h
    rw [preSum, presum_eq ts j (Nat.le_of_lt hj), List.take_succ_eq_append_getElem hj, List.map_append, List.sum_append, List.getD_eq_getElem?_getD, List.getElem?_eq_getElem hj]
    simp
theorem sum_le_of (l : List (Str × Str)) (h : ∀ q ∈ l, q.1.length + q.2.length ≤ 1000) : (l.map fun q => q.1.length + q.2.length).sum ≤ 1000 * l.length := by
  induction l with
  | nil => simp
  | cons a l ih =>
    have h1 := h a (.head _)
    have h2 := ih fun q hq => h q (.tail _ hq)
    simp only [List.map_cons, List.sum_cons, List.length_cons]
    omega
theorem fit_all (ts : List (Str × Str)) (h : ∀ q ∈ ts, q.1.length + q.2.length ≤ 1000) (hz : ts.length ≤ sizeLine) : ∀ j, j < ts.length →
    InLong (((ts.getD j default).1.length + (ts.getD j default).2.length : Nat) : Int) ∧ InLong (preSum (fun j => (((ts.getD j default).1.length + (ts.getD j default).2.length : Nat) : Int)) (j + 1)) := by
  intro j hj
  have hz' : ts.length ≤ 16777216 := hz
  refine ⟨?_, ?_⟩
  · have h1 := h ts[j] (List.getElem_mem hj)
    rw [List.getD_eq_getElem?_getD, List.getElem?_eq_getElem hj]
    unfold InLong
    simp only [Option.getD_some]
    omega
  · rw [presum_eq ts (j + 1) hj]
    have h1 := sum_le_of (ts.take (j + 1)) fun q hq => h q (List.mem_of_mem_take hq)
    rw [List.length_take] at h1
    unfold InLong
    omega
local macro_rules | `(tactic| walk_at $s:str) => if ["eval GeneratorExp"].contains s.getString then `(tactic| (refine halt ?_)) else Lean.Macro.throwUnsupported
theorem c_len : ∀ (w : World) (p : Program) (loose : List Str) (mean : ExcName → Option Value) (mg mb : Str → Option Value) (A : Around) (s : Shared) (Q : Value → Shared → Prop) (E : Value → Shared → Prop) (h₀ : Heap) (x dx : Addr) (vs : List Value) (ep : Nat) (hs : Int) (tk t : Tok) (ts : List (Str × Str)) (ps : Array Value),
   (Mine.frag.heap_1 w.params).In h₀ → Top p loose mean mg mb h₀ → CodeHd h₀ 88 84 → (∀ b o, h₀.get? b = some o → s.heap.get? b = some o) → h₀.get? x = none → h₀.get? dx = none → h₀.get? 84 = none → x ≠ dx →
   s.heap.get? x = some (pileO dx vs ep) → s.heap.get? dx = some (dictP hs tk t) → s.heap.get? 84 = some (tabObj ps) → PairsAt s.heap vs ts → TabOk lenPos ps → (∀ q ∈ ts, q.1.length + q.2.length ≤ 1000) → ts.length ≤ sizeLine → AllBare s.gens → A.handled = none → A.depth + 8 < recursionLimit → A.units + 64 < cLine →
   (∀ s' t ps', (∀ b o, b ≠ 84 → s.heap.get? b = some o → s'.heap.get? b = some o) → s'.heap.get? 84 = some (tabObj ps') → TabOk lenPos ps' → AllBare s'.gens → s'.os = s.os → Q (.int (sizeOf ts) t) s') →
   wpAny (model PySem.Challenge.rw_wu0023_01.row.prog w) A (PySem.call (.ref 89) [.ref x]) Q E s := by
  k_fill
  intro w p loose mean mg mb A s Q E h₀ x dx vs ep hs tk t ts ps X T C hk0 hx0 hd0 hP0 hxd hx hdx hP hts hps hlen hsz G hA0 hA hu hret
  obtain ⟨hd, dp, fr, gd, un⟩ := A
  dsimp only at hA0 hA hu
  subst hA0
  have hn : ∀ b ∈ ([x, dx, 84] : List Addr), h₀.get? b = none := by
    intro b hb; rcases List.mem_cons.mp hb with rfl | hb; exact hx0; rcases List.mem_cons.mp hb with rfl | hb; exact hd0; rcases List.mem_cons.mp hb with rfl | hb; exact hP0; cases hb
  refine wpAny_call ?_
  refine' enterH [x, dx, 84] h₀ hk0 ?hn X T ?k6 ?k7 (by dsimp only; omega) ?k9 ?kB ?_ ?c2 ?c3 ?c4 ?c5
  case hn => exact hn
  case k6 => k_is
  case k7 => k_is
  case k9 => exact BindsTo.of_eq rfl
  case c5 => decide
  case kB => exact locs rfl
  case c2 => exact rfl
  case c3 => exact rfl
  case c4 => exact rfl
  intro g h₁ L' hg1 hg2 hg3 hL hk F X' T'
  dsimp only
  have N := news3 hg3 hL hk hx hdx hP
  k_steps
  change wpAny _ _ _ _ _ _
  (with_reducible rename Fr _ _ _ _ => F2)
  (with_reducible rename Frag.In _ _ => X2)
  (with_reducible rename Top _ _ _ _ _ _ => T2)
  refine' gen_pile (xa := "fws") (xb := "part") (fun q v => ∃ t, v = .int ((q.1.length + q.2.length : Nat) : Int) t) F2 X2 T2 (C.keeps (subG hg2 hk0 hn)) (hg3 84 (.tail _ (.tail _ (.head _)))) (hk _ _ hP) hps (hk _ _ hx) (hk _ _ hdx) rfl (hts.keeps fun b o _ e => hk b o e) G rfl rfl rfl ?room rfl rfl ?hcell rfl rfl rfl ?hab rfl ?hs ?hiter ?helt ?hQ
  case room => simp only [depth_deeper]; omega
  case hcell => decide
  case hab => decide
  case hs => intro _; rfl
  case hiter =>
    intro Q hq
    k_steps
    exact hq
  case helt =>
    intro A' E' q t1 t2 D code u m₂ hq hA hD hU F3 h1 h2
    have N3 : News g D u.heap [] := News.nil
    clear F2
    obtain ⟨hd9, dp9, fr9, gd9, un9⟩ := A'
    dsimp only at hA
    subst hA
    (with_reducible rename Frag.In _ _ => X3)
    (with_reducible rename Top _ _ _ _ _ _ => T3)
    have hl9 := hlen q hq
    have hb1 : q.1.length ≤ 1000 := by omega
    have hb2 : q.2.length ≤ 1000 := by omega
    have hc1 : ¬ ((q.1.length : Int) ≥ 2 ^ 63) := by omega
    have hc2 : ¬ ((q.2.length : Int) ≥ 2 ^ 63) := by omega
    walk_at "eval BinOp"
    walk_at "eval Call"
    refine' nameG_B F3 X3 T3 ?n1 ?n6 ?n7 ?_ ?n2 ?n8 ?n3 ?n4 ?n5
    case n1 => k_is
    case n6 => boot_fast
    case n7 => decide
    case n2 => rfl
    case n8 => rfl
    case n3 => rfl
    case n4 => rfl
    case n5 => decide
    walk_at "callWith"
    walk_at "spliced"
    refine nameG_L F3 h1 ?_ rfl rfl rfl (by decide)
    walk_at "spliced"
    walk_at "call builtin:len"
    walk_at "eval Call"
    refine' nameG_B F3 X3 T3 ?n1 ?n6 ?n7 ?_ ?n2 ?n8 ?n3 ?n4 ?n5
    case n1 => k_is
    case n6 => boot_fast
    case n7 => decide
    case n2 => rfl
    case n8 => rfl
    case n3 => rfl
    case n4 => rfl
    case n5 => decide
    walk_at "callWith"
    walk_at "spliced"
    refine nameG_L F3 h2 ?_ rfl rfl rfl (by decide)
    walk_at "spliced"
    walk_at "call builtin:len"
    refine PySem.P.add_int ?_
    exact ⟨⟨_, by rw [Int.natCast_add]⟩, _, _, rfl, fun _ _ e => e⟩
  case hQ =>
    intro a s₅ ps' hk5 hP5 ok5 G5 hos5 hdr5 F5 X5
    have k5 : ∀ b o, b ≠ 84 → s.heap.get? b = some o → s₅.heap.get? b = some o := fun b o hb e => hk5 b o hb (hk b o e)
    have hx5 := k5 _ _ (fun q => by rw [q, hP] at hx; cases hx) hx
    have hd5 := k5 _ _ (fun q => by rw [q, hP] at hdx; cases hdx) hdx
    walk_at "spliced"
    refine Attribute_any_ ?_
    refine nameG_L F5 (v := .ref x) (by with_unfolding_all rfl) ?_ rfl rfl rfl (by decide)
    refine attr_pile (v := .int 0 t) (X2.keeps F5.keep) (instPile hx5 hd5) ?hf rfl ?_
    case hf => exact find_size _ _ _ _
    walk_at "spliced"
    have F6 : Fr g L' { s₅ with toks := s₅.toks + 1 }.heap _ := F5
    refine sum_pile (Kb := h₁.objs.size - 1) F6 G5 (genToks X5 (Nat.le_succ _)) ?hLK (fun j => (((ts.getD j default).1.length + (ts.getD j default).2.length : Nat) : Int)) ?hval ?hfit (fun s' t' F7 G7 hos7 hdr7 hk7 => ?_)
    case hLK => exact Nat.le_sub_one_of_lt F2.ns.lt
    case hval => rintro j v ⟨q, e, t, rfl⟩; exact ⟨t, by rw [List.getD_eq_getElem?_getD, e]; rfl⟩
    case hfit => exact fit_all ts hlen hsz
    have lt1 : ∀ b o, h₁.get? b = some o → b ≤ h₁.objs.size - 1 := fun b o e => Nat.le_sub_one_of_lt (Heap.lt_size e)
    have hsum : preSum (fun j => (((ts.getD j default).1.length + (ts.getD j default).2.length : Nat) : Int)) ts.length = sizeOf ts := by rw [presum_eq ts _ (Nat.le_refl _), List.take_length]; rfl
    rw [hsum]
    exact hret s' t' ps' (fun b o hb e => hk7 b o (lt1 b o (hk b o e)) (k5 b o hb e)) (hk7 _ _ (lt1 _ _ (hk _ _ hP)) hP5) ok5 G7 (hos7.trans hos5)
end Mine

end
section
open PySem PySem.W PyProof.Rows PySem.Calls
set_option maxRecDepth 100000
set_option maxHeartbeats 8000000
set_option pp.deepTerms false
set_option pp.maxSteps 2500
namespace Mine
/-- a pile, its own dict, and what its pieces are -/
noncomputable def PileAt (h : Heap) (x dx : Addr) (ts : List (Str × Str)) : Prop := ∃ vs ep hs tk t, h.get? x = some (pileO dx vs ep) ∧ h.get? dx = some (dictP hs tk t) ∧ PairsAt h vs ts
theorem PileAt.keeps {h h' : Heap} {x dx : Addr} {ts : List (Str × Str)} (p : PileAt h x dx ts) (k : ∀ b o, o.cls ≠ .none → h.get? b = some o → h'.get? b = some o) : PileAt h' x dx ts :=
  let ⟨vs, ep, hs, tk, t, e1, e2, e3⟩ := p; ⟨vs, ep, hs, tk, t, k _ _ (by intro q; cases q) e1, k _ _ (by intro q; cases q) e2, e3.keeps fun b o c e => k b o (by rw [c]; intro q; cases q) e⟩
theorem pairs_but {h h' : Heap} {x dx : Addr} {vs vs' : List Value} {ep : Nat} {ts : List (Str × Str)} (p : PairsAt h vs ts) (hx : h.get? x = some (pileO dx vs' ep)) (k : ∀ b o, b ≠ x → h.get? b = some o → h'.get? b = some o) : PairsAt h' vs ts :=
  p.keeps fun b o c e => k b o (fun q => by rw [q, hx] at e; cases e; cases c) e
theorem pairs_init {h : Heap} {vs : List Value} {v : Value} {ts : List (Str × Str)} {q : Str × Str} (p : PairsAt h (vs ++ [v]) (ts ++ [q])) : PairsAt h vs ts ∧ ∃ a t1 t2, v = .ref a ∧ h.get? a = some (tup2 q.1 q.2 t1 t2) := by
  have hl : vs.length = ts.length := by have := p.1; simp at this; exact this
  refine ⟨⟨hl, fun j r e => ?_⟩, ?_⟩
  · have hj : j < ts.length := (List.getElem?_eq_some_iff.mp e).1
    obtain ⟨a, t1, t2, e1, e2⟩ := p.2 j r (by rw [List.getElem?_append_left hj]; exact e)
    rw [List.getElem?_append_left (by omega)] at e1
    exact ⟨a, t1, t2, e1, e2⟩
  · obtain ⟨a, t1, t2, e1, e2⟩ := p.2 ts.length q (by simp)
    rw [← hl] at e1
    simp at e1
    exact ⟨a, t1, t2, e1, e2⟩
theorem pairs_snoc {h : Heap} {vs : List Value} {a : Addr} {ts : List (Str × Str)} {q : Str × Str} {t1 t2 : Tok} (p : PairsAt h vs ts) (e : h.get? a = some (tup2 q.1 q.2 t1 t2)) : PairsAt h (vs ++ [.ref a]) (ts ++ [q]) := by
  refine ⟨by simp [p.1], fun j r er => ?_⟩
  by_cases hj : j < ts.length
  · rw [List.getElem?_append_left hj] at er
    obtain ⟨a', u1, u2, e1, e2⟩ := p.2 j r er
    exact ⟨a', u1, u2, by rw [List.getElem?_append_left (by rw [p.1]; exact hj)]; exact e1, e2⟩
  · have hlt := (List.getElem?_eq_some_iff.mp er).1
    have hj' : j = ts.length := by simp at hlt; omega
    subst hj'
    simp at er
    subst er
    exact ⟨a, t1, t2, by rw [← p.1]; simp, e⟩
theorem c_pop : ∀ (w : World) (p : Program) (loose : List Str) (mean : ExcName → Option Value) (mg mb : Str → Option Value) (A : Around) (s : Shared) (Q : Value → Shared → Prop) (E : Value → Shared → Prop) (h₀ : Heap) (x dx : Addr) (ts : List (Str × Str)),
   (Mine.frag.heap_1 w.params).In h₀ → Top p loose mean mg mb h₀ → (∀ b o, h₀.get? b = some o → s.heap.get? b = some o) → h₀.get? x = none → h₀.get? dx = none → x ≠ dx →
   PileAt s.heap x dx ts → ts.length ≤ 1000 → A.handled = none → A.depth + 4 < recursionLimit → A.units + 4 * 4 < cLine →
   (∀ h' tk' c t1 t2, (∀ b o, b ≠ x → s.heap.get? b = some o → h'.get? b = some o) → PileAt h' x dx ts.dropLast → c ≠ x → h'.get? c = some (tup2 (ts.getLastD (Str.empty, Str.empty)).1 (ts.getLastD (Str.empty, Str.empty)).2 t1 t2) → Q (.ref c) {s with heap := h', toks := tk'}) →
   wpAny (model PySem.Challenge.rw_wu0023_01.row.prog w) A (PySem.call (.ref 82) [.ref x]) Q E s := by
  intro w p loose mean mg mb A s Q E h₀ x dx ts X T hk0 hx0 hd0 hxd hp hsz hA0 hA hu hret
  obtain ⟨vs, ep, hs, tk, t, hx, hdx, hts⟩ := hp
  rcases List.eq_nil_or_concat ts with rfl | ⟨ts', q, rfl⟩
  · have hv : vs = [] := List.length_eq_zero_iff.mp hts.1
    subst hv
    refine c_pop0 w p loose mean mg mb A s Q E h₀ x dx ep hs tk t X T hk0 hx0 hd0 hxd hx hdx trivial hA0 hA hu fun h' tk' c t1 t2 hk hc hc' => ?_
    exact hret h' tk' c t1 t2 (fun b o _ e => hk b o e) ⟨[], ep, hs, tk, t, hk _ _ hx, hk _ _ hdx, rfl, fun j r e => by simp at e⟩ (fun q => by rw [q, hx] at hc; cases hc) hc'
  · rw [List.concat_eq_append] at hts hsz hret
    have hlen : vs.length = ts'.length + 1 := by have := hts.1; simpa using this
    rcases List.eq_nil_or_concat vs with rfl | ⟨vs', v, rfl⟩
    · simp at hlen
    · rw [List.concat_eq_append] at hts hx hlen
      obtain ⟨hts', a, t1, t2, rfl, ha⟩ := pairs_init hts
      have hax : a ≠ x := fun e => by rw [e, hx] at ha; cases ha
      refine c_pop1 w p loose mean mg mb A s Q E h₀ x dx vs' ep hs tk t (.ref a) X T hk0 hx0 hd0 hxd hx hdx ?_ hA0 hA hu fun h' tk' hk hx' => ?_
      · have : vs'.length ≤ 1000 := by simp at hlen hsz; omega
        show vs'.length < 2 ^ 24
        omega
      · refine hret h' tk' a t1 t2 hk ?_ hax ?_
        · rw [List.dropLast_concat]
          exact ⟨vs', ep + 1, hs, tk, t, hx', hk _ _ (Ne.symm hxd) hdx, pairs_but hts' hx hk⟩
        · rw [List.getLastD_concat]
          exact hk _ _ hax ha
theorem c_pushP : ∀ (w : World) (p : Program) (loose : List Str) (mean : ExcName → Option Value) (mg mb : Str → Option Value) (A : Around) (s : Shared) (Q : Value → Shared → Prop) (E : Value → Shared → Prop) (h₀ : Heap) (x dx : Addr) (ts : List (Str × Str)) (a b : Str) (t1 t2 : Tok),
   (Mine.frag.heap_1 w.params).In h₀ → Top p loose mean mg mb h₀ → (∀ b o, h₀.get? b = some o → s.heap.get? b = some o) → h₀.get? x = none → h₀.get? dx = none → x ≠ dx →
   PileAt s.heap x dx ts → ts.length ≤ 1000 → A.handled = none → A.depth + 2 < recursionLimit → A.units + 4 * 2 < cLine →
   (∀ h' tk', (∀ b o, b ≠ x → s.heap.get? b = some o → h'.get? b = some o) → PileAt h' x dx (ts ++ [(a, b)]) → Q .none {s with heap := h', toks := tk'}) →
   wpAny (model PySem.Challenge.rw_wu0023_01.row.prog w) A (PySem.call (.ref 66) [.ref x, .str a t1, .str b t2]) Q E s := by
  intro w p loose mean mg mb A s Q E h₀ x dx ts a b t1 t2 X T hk0 hx0 hd0 hxd hp hsz hA0 hA hu hret
  obtain ⟨vs, ep, hs, tk, t, hx, hdx, hts⟩ := hp
  refine c_push w p loose mean mg mb A s Q E h₀ x dx vs ep hs tk t a b t1 t2 X T hk0 hx0 hd0 hxd hx hdx ?_ hA0 hA hu fun h' tk' c u1 u2 hk hx' hc hc' => ?_
  · rw [hts.1]
    show ts.length ≤ 2 ^ 24
    omega
  · exact hret h' tk' hk ⟨_, _, hs, tk, t, hx', hk _ _ (Ne.symm hxd) hdx, pairs_snoc (pairs_but hts hx hk) hc'⟩
end Mine

end
section
open PySem PySem.W PyProof.Rows PySem.Calls
set_option maxRecDepth 100000
set_option maxHeartbeats 8000000
namespace Mine
/-- one turn's end: what is shown next, and the iterator as it stood -/
noncomputable def TurnEnd (J : Nat → Shared → Prop) (I : Addr) (oI : Obj) (i : Nat) (s : Shared) : Prop := J (i + 1) s ∧ s.heap.get? I = some oI
/-- `for x in range(cnt)` with what holds ahead of each turn -/
theorem range_loop {prog : Program} {w : World} {A : Around} {s : Shared} {E : Value → Shared → Prop} {R : Result → Shared → Prop} {target : Expr} {body orelse : List Stmt} {env : Env} {r : Addr} {cnt : Nat} {t u v : Tok} (hh : A.handled = none)
    (hr : IsRange s.heap r 0 (cnt : Int) 1 t u v) (hc : cnt ≤ 1000000) (J : Nat → Shared → Prop)
    (move : ∀ i (s' : Shared) h' tk, J i s' → (∀ o, s'.heap.get? s.heap.objs.size = some o → o.cls = .type "range_iterator" ∧ ∃ fs, o.data = .fields fs) → (∀ b o, b ≠ s.heap.objs.size → s'.heap.get? b = some o → h'.get? b = some o) → J i { s' with heap := h', toks := tk })
    (start : J 0 s)
    (step : ∀ i (s' : Shared) oI t', i < cnt → J i s' → s'.heap.get? s.heap.objs.size = some oI → oI.cls = .type "range_iterator" → wpAny (model prog w) A (assign target env (.int (i : Int) t')) (fun _ s₂ => wpAny (model prog w) A (execs body env) (fun f s₃ => match f with
          | .next | .cont => TurnEnd J s.heap.objs.size oI i s₃
          | .brk => R (.ok .next) s₃
          | .ret v => R (.ok (.ret v)) s₃) (notedBy (model prog w) A env fun e s' => R (.error e) s') s₂) (notedBy (model prog w) A env fun e s' => R (.error e) s') s')
    (done : ∀ s', J cnt s' → wpAny (model prog w) A (execs orelse env) (fun f s₃ => R (.ok f) s₃) (notedBy (model prog w) A env fun e s' => R (.error e) s') s')
    (ht : ∀ it v, letOwnedTupleGo target it v = pure ()) :
    wpAny (model prog w) A (pyIter (.ref r)) (fun it s₂ => codeAny (model prog w) A (.forLoop target it body orelse env) R s₂) E s := by
  have hsm : Builtin.Range.small 0 (cnt : Int) 1 = true := small_one (by omega) (by omega) (by omega) (by omega)
  have hn : Builtin.Range.rangeSize 0 (cnt : Int) 1 = ((cnt : Nat) : Int) := by rw [rangeSize_one]; split <;> omega
  refine wpAny_pyIter_range hr hsm ?_
  rw [hn]
  have W := fun (i : Nat) => LCg.range_walks (prog := prog) (w := w) (I := s.heap.objs.size) hh 0 cnt
  have cl : ∀ {a b : Int} (s' : Shared), IsRangeIter s'.heap s.heap.objs.size a b 1 → ∀ o, s'.heap.get? s.heap.objs.size = some o → o.cls = .type "range_iterator" ∧ ∃ fs, o.data = .fields fs := fun s' st o e => by
    have st' : s'.heap.get? s.heap.objs.size = some _ := st
    rw [st'] at e; cases e; exact ⟨rfl, _, rfl⟩
  refine codeAny_forLoop (fun k s' => ∃ i, i ≤ cnt ∧ k = cnt - i ∧ J i s' ∧ IsRangeIter s'.heap s.heap.objs.size (0 + (i : Nat) * 1) ((cnt : Int) - (i : Nat)) 1) ?_ cnt ⟨0, Nat.zero_le _, rfl, ?_, ?_⟩ (ht _)
  · rintro k s' ⟨i, hi, rfl, hJ, hit⟩
    by_cases hlt : i < cnt
    · refine (W 0).item i s' _ _ hlt hit fun v h' tk hP st' hk => ?_
      obtain ⟨t', rfl⟩ := hP
      have st2 : h'.get? s.heap.objs.size = some _ := st'
      rw [Int.zero_add]
      refine wpAny_mono (step i { s' with heap := h', toks := tk } _ t' hlt (move i s' h' tk hJ (cl s' hit) fun b o hb e => hk b o (fun q => hb (List.mem_singleton.mp q)) e) st2 rfl) (fun _ s₂ h₂ => wpAny_mono h₂ (fun f s₃ h₃ => ?_) fun _ _ e => e) fun _ _ e => e
      cases f with
      | next => exact ⟨cnt - (i + 1), by omega, i + 1, hlt, rfl, h₃.1, h₃.2⟩
      | cont => exact ⟨cnt - (i + 1), by omega, i + 1, hlt, rfl, h₃.1, h₃.2⟩
      | brk => exact h₃
      | ret v => exact h₃
    · obtain rfl : i = cnt := Nat.le_antisymm hi (Nat.not_lt.mp hlt)
      refine (W 0).done s' _ _ hit fun h' tk hk => ?_
      exact done _ (move _ s' h' tk hJ (cl s' hit) fun b o hb e => hk b o (fun q => hb (List.mem_singleton.mp q)) e)
  · exact move 0 s _ s.toks start (fun o e => absurd (Heap.lt_size e) (Nat.lt_irrefl _)) fun b o _ e => Heap.get?_push_of_some _ e
  · show (s.heap.push _).get? _ = _
    simpa using Heap.get?_push_size _ rfl
end Mine

end
section
open PySem PySem.W PyProof.Rows PySem.Calls
set_option maxRecDepth 100000
set_option maxHeartbeats 8000000
set_option pp.deepTerms false
set_option pp.maxSteps 2500
namespace Mine
theorem fr_x {g h h' : Heap} {L x : Addr} {m : Str → Option Value} (F : Fr g L h m) (k : ∀ b o, b ≠ x → h.get? b = some o → h'.get? b = some o) (hx : g.get? x = none) (hL : L ≠ x) : Fr g L h' m :=
  ⟨F.ns.at' fun o e => k L o hL e, fun b o e => k b o (fun q => by rw [q, hx] at e; cases e) (F.keep b o e), F.above⟩
theorem news_x {g h h' : Heap} {L x : Addr} {o o' : Obj} {rest : List (Addr × Obj)} (N : News g L h ((x, o) :: rest)) (k : ∀ b o, b ≠ x → h.get? b = some o → h'.get? b = some o) (hx : h'.get? x = some o') (hr : OffN x rest) : News g L h' ((x, o') :: rest) := by
  intro p hp
  rcases List.mem_cons.mp hp with rfl | hp
  · exact ⟨hx, (N _ (.head _)).2⟩
  · exact ⟨k _ _ (Ne.symm (hr p hp)) (N p (.tail _ hp)).1, (N p (.tail _ hp)).2⟩
local macro_rules | `(tactic| k_inst) => `(tactic| (refine' pileInst ?N ?h1 ?h2; (case N => k_asm); (case h1 => k_mem); (case h2 => k_mem)))
local macro_rules | `(tactic| walk_at "getMethod ref") => `(tactic| (k_here; k_dflt (first
  | (refine' method_fnK ?k1 ?k2 ?k3 ?k5 ?k6 ?k7 ?_; (case k1 => k_asm); (case k2 => k_asm); (case k3 => k_inst); (case k5 => k_is); (case k6 => k_is); (case k7 => k_get); k_whole))))
local macro_rules | `(tactic| walk_at $s:str) => if ["exec While", "exec For Name Call cons nil", "pyIter ref"].contains s.getString then `(tactic| (refine halt ?_)) else Lean.Macro.throwUnsupported
local macro_rules | `(tactic| walk_at "call ref") => `(tactic| (first | ((with_reducible show wpAny _ _ (PySem.call (Value.ref 66) _) _ _ _); (refine halt ?_)) | ((with_reducible show wpAny _ _ (PySem.call (Value.ref 82) _) _ _ _); (refine halt ?_))))
/-- a pop, in terms of the ledger -/
theorem pop_step {w : World} {p : Program} {loose : List Str} {mean : ExcName → Option Value} {mg mb : Str → Option Value} {A : Around} {s : Shared} {Q E : Value → Shared → Prop} {g : Heap} {L x dx : Addr} {mm : Str → Option Value} {vs : List Value} {ep : Nat} {hs : Int} {tk t : Tok} {rest : List (Addr × Obj)} {rs : List (Str × Str)}
   (X : (Mine.frag.heap_1 w.params).In g) (T : Top p loose mean mg mb g) (F : Fr g L s.heap mm) (N : News g L s.heap ((x, pileO dx vs ep) :: (dx, dictP hs tk t) :: rest)) (hxd : x ≠ dx) (hr : OffN x rest) (P : PairsAt g vs rs.reverse) (hsz : rs.length ≤ 1000)
   (hA0 : A.handled = none) (hA : A.depth + 4 < recursionLimit) (hu : A.units + 16 < cLine)
   (h1 : ∀ q rs' h' tk' vs' ep' c t1 t2, rs = q :: rs' → Fr g L h' mm → News g L h' ((x, pileO dx vs' ep') :: (dx, dictP hs tk t) :: rest) → PairsAt g vs' rs'.reverse → g.get? c = some (tup2 q.1 q.2 t1 t2) → (∀ b o, b ≠ x → s.heap.get? b = some o → h'.get? b = some o) → Q (.ref c) { s with heap := h', toks := tk' })
   (h0 : ∀ h' tk' c t1 t2, rs = [] → Fr g L h' mm → News g L h' ((x, pileO dx [] ep) :: (dx, dictP hs tk t) :: (c, tup2 Str.empty Str.empty t1 t2) :: rest) → x ≠ c → s.heap.get? c = none → (∀ b o, s.heap.get? b = some o → h'.get? b = some o) → Q (.ref c) { s with heap := h', toks := tk' }) :
   wpAny (model PySem.Challenge.rw_wu0023_01.row.prog w) A (PySem.call (.ref 82) [.ref x]) Q E s := by
  have zx := N _ (.head _)
  have zd := N _ (.tail _ (.head _))
  have off : OffN x ((dx, dictP hs tk t) :: rest) := fun p hp => by
    rcases List.mem_cons.mp hp with rfl | hp
    · exact hxd
    · exact hr p hp
  cases rs with
  | nil =>
    have hv : vs = [] := List.length_eq_zero_iff.mp P.1
    subst hv
    refine c_pop0 w p loose mean mg mb A s Q E g x dx ep hs tk t X T F.keep zx.2.2 zd.2.2 hxd zx.1 zd.1 trivial hA0 hA hu fun h' tk' c t1 t2 hk hc hc' => ?_
    have N' := newsAdd F N hk hc hc'
    refine h0 h' tk' c t1 t2 rfl (F.keeps hk) (fun p hp => N' p ?_) (fun q => by have e := zx.1; rw [q, hc] at e; cases e) hc hk
    simp only [List.mem_cons] at hp ⊢
    rcases hp with h | h | h | h <;> simp [h]
  | cons q rs' =>
    rw [List.reverse_cons] at P
    rcases List.eq_nil_or_concat vs with rfl | ⟨vs', v, rfl⟩
    · have := P.1; simp at this
    · rw [List.concat_eq_append] at P N zx
      obtain ⟨P', a, t1, t2, rfl, ha⟩ := pairs_init P
      refine c_pop1 w p loose mean mg mb A s Q E g x dx vs' ep hs tk t (.ref a) X T F.keep zx.2.2 zd.2.2 hxd zx.1 zd.1 ?_ hA0 hA hu fun h' tk' hk hx' => ?_
      · have := P'.1
        simp at this hsz
        show vs'.length < 2 ^ 24
        omega
      · exact h1 q rs' h' tk' vs' (ep + 1) a t1 t2 rfl (fr_x F hk zx.2.2 (Ne.symm zx.2.1)) (news_x N hk hx' off) P' ha hk
noncomputable def blank (q : Str × Str) : Str × Str := (q.1 ++ Str.ofString " ", Str.ofString "o")
noncomputable def zero2 : Str × Str := (Str.ofString "", Str.ofString "o")
noncomputable def none2 : Str × Str := (Str.empty, Str.empty)
/-- the pops: how many, the last piece, what is left (from the last on) -/
noncomputable def popsP (m : Nat) (q : Str × Str) : List (Str × Str) → Nat × (Str × Str) × List (Str × Str)
  | [] => if q.1.length + 1 = m then (1, none2, []) else (0, q, [])
  | q' :: rs => if q.1.length + 1 = m then ((popsP m q' rs).1 + 1, (popsP m q' rs).2) else (0, q, q' :: rs)
noncomputable def moreP (m n : Nat) (q : Str × Str) (rs : List (Str × Str)) : List (Str × Str) :=
  let r := popsP m q rs
  (if r.1 < n then r.2.2.reverse ++ [blank r.2.1] else r.2.2.reverse) ++ List.replicate r.1 zero2
noncomputable def Dn (I : Nat → Shared → Prop) (n : Nat) (s : Shared) : Prop := ∃ m, m < n ∧ I m s
theorem while_loop {prog : Program} {w : World} {A : Around} {R : Result → Shared → Prop} {s : Shared} {test : Expr} {body orelse : List Stmt} {env : Env} (I : Nat → Shared → Prop)
    (turn : ∀ n s, I n s → wpAny (model prog w) A (isTrue test env (eval test env)) (fun b s₂ =>
        if b then wpAny (model prog w) A (execs body env) (fun f s₃ => match f with
            | .next | .cont => Dn I n s₃
            | .brk => R (.ok .next) s₃
            | .ret v => R (.ok (.ret v)) s₃) (notedBy (model prog w) A env fun e s' => R (.error e) s') s₂
        else wpAny (model prog w) A (execs orelse env) (fun f s₃ => R (.ok f) s₃) (notedBy (model prog w) A env fun e s' => R (.error e) s') s₂)
        (notedBy (model prog w) A env fun e s' => R (.error e) s') s)
    (n : Nat) (h : I n s) : codeAny (model prog w) A (.whileLoop test body orelse env) R s := codeAny_whileLoop I turn n h
noncomputable def OM (s : Shared) (g : Heap) (L x dx : Addr) (hs : Int) (tk t tm tn : Tok) (m n k : Nat) (q : Str × Str) (rs : List (Str × Str)) (s' : Shared) : Prop :=
  ∃ h tk' mm vs ep p t1 t2 rest u, s' = { s with heap := h, toks := tk' } ∧ Fr g L h mm ∧ mm (Str.ofString "pile") = some (.ref x) ∧ mm (Str.ofString "wheel") = some (.int (m : Int) tm) ∧ mm (Str.ofString "rounds") = some (.int (n : Int) tn) ∧ mm (Str.ofString "spent") = some (.int (k : Int) u) ∧ mm (Str.ofString "piece") = some (.ref p) ∧
    News g L h ((x, pileO dx vs ep) :: (dx, dictP hs tk t) :: rest) ∧ OffN x rest ∧ PairsAt g vs rs.reverse ∧ (g.get? p = some (tup2 q.1 q.2 t1 t2) ∨ (p, tup2 q.1 q.2 t1 t2) ∈ rest)
theorem OM.mk {s : Shared} {g h : Heap} {L x dx p : Addr} {hs : Int} {tk t tm tn t1 t2 u : Tok} {m n k tk' : Nat} {q : Str × Str} {rs : List (Str × Str)} {mm : Str → Option Value} {vs : List Value} {ep : Nat} {rest : List (Addr × Obj)}
    (F : Fr g L h mm) (e1 : mm (Str.ofString "pile") = some (.ref x)) (e2 : mm (Str.ofString "wheel") = some (.int (m : Int) tm)) (e3 : mm (Str.ofString "rounds") = some (.int (n : Int) tn)) (e4 : mm (Str.ofString "spent") = some (.int (k : Int) u)) (e5 : mm (Str.ofString "piece") = some (.ref p))
    (N : News g L h ((x, pileO dx vs ep) :: (dx, dictP hs tk t) :: rest)) (off : OffN x rest) (P : PairsAt g vs rs.reverse) (hp : g.get? p = some (tup2 q.1 q.2 t1 t2) ∨ (p, tup2 q.1 q.2 t1 t2) ∈ rest) : OM s g L x dx hs tk t tm tn m n k q rs { s with heap := h, toks := tk' } :=
  ⟨h, tk', mm, vs, ep, p, t1, t2, rest, u, rfl, F, e1, e2, e3, e4, e5, N, off, P, hp⟩
local macro_rules | `(tactic| walk_at "eval Name") => `(tactic| ((with_reducible rename Fr _ _ _ _ => gF); refine nameG_L gF (by first | assumption | (rw [if_neg (by decide)]; assumption) | (rw [if_neg (by decide), if_neg (by decide)]; assumption)) ?_ rfl rfl rfl (by decide)))
local macro_rules | `(tactic| walk_at "loadName") => `(tactic| ((with_reducible rename Fr _ _ _ _ => gF); refine wpAny_loadName_local rfl rfl gF.ns (by assumption) ?_))
theorem pops_le (m : Nat) : ∀ (rs : List (Str × Str)) (q : Str × Str), (popsP m q rs).1 ≤ rs.length + 1
  | [], q => by unfold popsP; split <;> simp
  | q' :: rs, q => by
    unfold popsP
    split
    · have := pops_le m rs q'
      simp; omega
    · simp
theorem pops_stop {m : Nat} {q : Str × Str} (h : ¬ (q.1.length + 1 = m)) : ∀ rs, popsP m q rs = (0, q, rs)
  | [] => by unfold popsP; rw [if_neg h]
  | q' :: rs => by unfold popsP; rw [if_neg h]
theorem pairs_frame {h h' : Heap} {L : Addr} {m : Str → Option Value} {vs : List Value} {ts : List (Str × Str)} (p : PairsAt h vs ts) (N : h.Ns L m) (k : ∀ b o, b ≠ L → h.get? b = some o → h'.get? b = some o) : PairsAt h' vs ts :=
  ⟨p.1, fun j q e => let ⟨a, t1, t2, e1, e2⟩ := p.2 j q e; ⟨a, t1, t2, e1, k _ _ (fun c => by
    obtain ⟨o, es, ep, h1, h2, _⟩ := N
    rw [← c, e2] at h1; cases h1; cases h2) e2⟩⟩
theorem ne_iter {h : Heap} {I x : Addr} {o o' : Obj} (hI : h.get? I = some o) (hx : h.get? x = some o') (ne : o.cls ≠ o'.cls) : I ≠ x := fun e => ne (by rw [e, hx] at hI; cases hI; rfl)
noncomputable def ForInv (s : Shared) (g : Heap) (L x dx p : Addr) (hs : Int) (tk t : Tok) (q : Str × Str) (u1 u2 : Tok) (ts : List (Str × Str)) (s' : Shared) : Prop :=
  ∃ h tk' mm, s' = { s with heap := h, toks := tk' } ∧ Fr g L h mm ∧ mm (Str.ofString "pile") = some (.ref x) ∧ mm (Str.ofString "piece") = some (.ref p) ∧ PileAt h x dx ts ∧ h.get? dx = some (dictP hs tk t) ∧ h.get? p = some (tup2 q.1 q.2 u1 u2)
theorem ForInv.move {s : Shared} {g : Heap} {L x dx p I : Addr} {hs : Int} {tk t : Tok} {q : Str × Str} {u1 u2 : Tok} {ts : List (Str × Str)} {s' : Shared} {h' : Heap} {tk9 : Nat} (J : ForInv s g L x dx p hs tk t q u1 u2 ts s')
    (k : ∀ b o, b ≠ I → s'.heap.get? b = some o → h'.get? b = some o) (hcl : ∀ o, s'.heap.get? I = some o → o.cls = .type "range_iterator") (hI : L < I) : ForInv s g L x dx p hs tk t q u1 u2 ts { s' with heap := h', toks := tk9 } := by
  obtain ⟨h, tk', mm, rfl, F, e1, e5, P, D, hq⟩ := J
  have k2 : ∀ b o, o.cls ≠ .type "range_iterator" → h.get? b = some o → h'.get? b = some o := fun b o c e => k b o (fun q => c (hcl o (q ▸ e))) e
  refine ⟨h', tk9, mm, rfl, ⟨F.ns.at' fun o e => k L o (Nat.ne_of_lt hI) e, fun b o e => k b o (Nat.ne_of_lt (Nat.lt_of_lt_of_le (Heap.lt_size e) (Nat.le_trans F.above (Nat.le_of_lt hI)))) (F.keep b o e), F.above⟩, e1, e5, ?_, k2 _ _ (by intro c; first | cases c | (simp [tup2] at c) | simp at c) D, k2 _ _ (by intro c; first | cases c | (simp [tup2] at c) | simp at c) hq⟩
  obtain ⟨vs, ep, hs', tk', t', a1, a2, a3⟩ := P
  exact ⟨vs, ep, hs', tk', t', k2 _ _ (by intro c; first | cases c | (simp [tup2] at c) | simp at c) a1, k2 _ _ (by intro c; first | cases c | (simp [tup2] at c) | simp at c) a2, a3.keeps fun b o c e => k2 b o (by rw [c]; intro c; first | cases c | (simp [tup2] at c) | simp at c) e⟩
theorem c_more : ∀ (w : World) (p : Program) (loose : List Str) (mean : ExcName → Option Value) (mg mb : Str → Option Value) (A : Around) (s : Shared) (Q : Value → Shared → Prop) (E : Value → Shared → Prop) (h₀ : Heap) (x dx : Addr) (q0 : Str × Str) (rs0 : List (Str × Str)) (m n : Nat) (tm tn : Tok),
   (Mine.frag.heap_1 w.params).In h₀ → Top p loose mean mg mb h₀ → (∀ b o, h₀.get? b = some o → s.heap.get? b = some o) → h₀.get? x = none → h₀.get? dx = none → x ≠ dx →
   PileAt s.heap x dx (rs0.reverse ++ [q0]) → rs0.length ≤ 400 → (∀ r ∈ q0 :: rs0, r.1.length ≤ 1000) → 2 ≤ m → m ≤ 100 → n ≤ 100 → A.handled = none → A.depth + 8 < recursionLimit → A.units + 64 < cLine →
   (∀ h' tk' c t1 t2, (∀ b o, b ≠ x → s.heap.get? b = some o → h'.get? b = some o) → PileAt h' x dx (moreP m n q0 rs0) → c ≠ x → h'.get? c = some (tup2 (popsP m q0 rs0).2.1.1 (popsP m q0 rs0).2.1.2 t1 t2) → Q (.ref c) {s with heap := h', toks := tk'}) →
   wpAny (model PySem.Challenge.rw_wu0023_01.row.prog w) A (PySem.call (.ref 168) [.ref x, .int (m : Int) tm, .int (n : Int) tn]) Q E s := by
  k_fill
  intro w p loose mean mg mb A s Q E h₀ x dx q0 rs0 m n tm tn X T hk0 hx0 hd0 hxd hp hsz hll hm2 hm hn hA0 hA hu hret
  obtain ⟨vs, ep, hs, tk1, t, hx, hdx, hts⟩ := hp
  obtain ⟨hd, dp, fr, gd, un⟩ := A
  dsimp only at hA0 hA hu
  subst hA0
  have hnn : ∀ b ∈ ([x, dx] : List Addr), h₀.get? b = none := by
    intro b hb; rcases List.mem_cons.mp hb with rfl | hb; exact hx0; rcases List.mem_cons.mp hb with rfl | hb; exact hd0; cases hb
  refine wpAny_call ?_
  refine' enterH [x, dx] h₀ hk0 ?hn X T ?k6 ?k7 (by dsimp only; omega) ?k9 ?kB ?_ ?c2 ?c3 ?c4 ?c5
  case hn => exact hnn
  case k6 => k_is
  case k7 => k_is
  case k9 => exact BindsTo.of_eq rfl
  case c5 => decide
  case kB => exact locs rfl
  case c2 => exact rfl
  case c3 => exact rfl
  case c4 => exact rfl
  intro g h₁ L' hg1 hg2 hg3 hL hk F X' T'
  dsimp only
  have hxL : x ≠ L' := by rw [← hL]; exact Nat.ne_of_lt (Heap.lt_size hx)
  have hdL : dx ≠ L' := by rw [← hL]; exact Nat.ne_of_lt (Heap.lt_size hdx)
  have N : News g L' h₁ [(x, pileO dx vs ep), (dx, dictP hs tk1 t)] := by
    intro p hp
    rcases List.mem_cons.mp hp with rfl | hp
    · exact ⟨hk _ _ hx, hxL, hg3 _ (.head _)⟩
    · rcases List.mem_cons.mp hp with rfl | hp
      · exact ⟨hk _ _ hdx, hdL, hg3 _ (.tail _ (.head _))⟩
      · cases hp
  have hxd' := neN hxd
  have P0 : PairsAt g vs (q0 :: rs0).reverse := by
    rw [List.reverse_cons]
    exact hts.keeps fun b o c e => hg2 b o e (fun hm => by
      rcases List.mem_cons.mp hm with rfl | hm
      · rw [hx] at e; cases e; cases c
      · rw [List.mem_singleton.mp hm, hdx] at e; cases e; simp at c)
  k_steps
  change wpAny _ _ _ _ _ _
  (with_reducible rename Fr _ _ _ _ => F2)
  (with_reducible rename News _ _ _ _ => N2)
  (with_reducible rename Frag.In _ _ => X2)
  (with_reducible rename Top _ _ _ _ _ _ => T2)
  refine pop_step (rest := []) X2 T2 F2 N2 hxd (fun p hp => nomatch hp) P0 (by simp; omega) rfl ?d ?u ?h1 (fun h' tk' c t1 t2 e => by cases e)
  case d => simp only [depth_deeper]; omega
  case u => simp only [units_deeper]; omega
  case h1 =>
    intro q' rs' h2 tk2 vs2 ep2 c t1 t2 e F3 N3 P3 hc hk3
    obtain ⟨rfl, rfl⟩ := List.cons.inj e
    clear F2 N2 e
    k_steps
    change wpAny _ _ _ _ _ _
    (with_reducible rename Fr _ _ _ _ => F4)
    (with_reducible rename News _ _ _ _ => N4)
    refine wpAny_While (while_loop (fun z s' => ∃ k q rs, OM s g L' x dx hs tk1 t tm tn m n k q rs s' ∧ popsP m q0 rs0 = ((popsP m q rs).1 + k, (popsP m q rs).2) ∧ rs.length ≤ 400 ∧ (∀ r ∈ q :: rs, r.1.length ≤ 1000) ∧ z = rs.length + (if q.1.length + 1 = m then 1 else 0)) ?turn (rs0.length + (if q0.1.length + 1 = m then 1 else 0)) ?start)
    case start => exact ⟨0, q0, rs0, ⟨_, _, _, vs2, ep2, c, t1, t2, [], _, rfl, F4, rfl, rfl, rfl, rfl, rfl, N4, (fun p hp => nomatch hp), P3, .inl hc⟩, rfl, hsz, hll, rfl⟩
    case turn =>
      clear F4 N4
      rintro z s' ⟨k, q, rs, ⟨h, tk', mm, vs, ep, p9, u1, u2, rest, u, rfl, F5, e1, e2, e3, e4, e5, N5, off5, P5, hp5⟩, hpop, hlen, hll5, hz⟩
      have hT : IsTup h p9 #[.str q.1 u1, .str q.2 u2] := by
        rcases hp5 with hp5 | hp5
        · exact ⟨_, F5.keep _ _ hp5, rfl, _, rfl⟩
        · exact ⟨_, (N5 _ (.tail _ (.tail _ hp5))).1, rfl, _, rfl⟩
      have hq1 := hll5 q (.head _)
      have hq2 : ¬ ((q.1.length : Int) ≥ 2 ^ 63) := by omega
      k_steps
      · change wpAny _ _ _ _ _ _
        (with_reducible rename Fr _ _ _ _ => F6)
        (with_reducible rename News _ _ _ _ => N6)
        have hqm : q.1.length + 1 = m := by omega
        refine pop_step X2 T2 F6 N6 hxd off5 P5 (by omega) ?a0 ?d ?u ?p1 ?p0
        case a0 => exact rfl
        case d => simp only [depth_deeper]; omega
        case u => simp only [units_deeper]; omega
        case p1 =>
          intro q7 rs7 h7 tk7 vs7 ep7 c7 v1 v2 er F7 N7 P7 hc7 hk7
          subst er
          clear F6 N6
          k_steps
          (with_reducible rename Fr _ _ _ _ => F8)
          (with_reducible rename News _ _ _ _ => N8)
          refine ⟨_, ?_, k + 1, q7, rs7, OM.mk F8 e1 e2 e3 rfl rfl N8 off5 P7 (.inl hc7), ?_, ?_, ?_, rfl⟩
          · have hz' : z = (q7 :: rs7).length + 1 := by rw [hz, if_pos hqm]
            rw [hz', List.length_cons]
            split <;> omega
          · rw [hpop]
            simp only [popsP, if_pos hqm]
            refine Prod.ext ?_ rfl
            show (popsP m q7 rs7).1 + 1 + k = (popsP m q7 rs7).1 + (k + 1)
            omega
          · simp at hlen; omega
          · exact fun r hr => hll5 r (.tail _ hr)
        case p0 =>
          intro h7 tk7 c7 v1 v2 er F7 N7 hx7 hc7 hk7
          subst er
          clear F6 N6
          k_steps
          (with_reducible rename Fr _ _ _ _ => F8)
          (with_reducible rename News _ _ _ _ => N8)
          have off9 : OffN x ((c7, tup2 Str.empty Str.empty v1 v2) :: rest) := fun p hp => by
            rcases List.mem_cons.mp hp with rfl | hp
            · exact hx7
            · exact off5 p hp
          refine ⟨0, ?_, k + 1, none2, [], OM.mk F8 e1 e2 e3 rfl rfl N8 off9 ⟨rfl, fun j r e => by simp at e⟩ (.inr (.head _)), ?_, ?_, ?_, ?_⟩
          · rw [hz, if_pos hqm]; exact Nat.succ_pos _
          · rw [hpop]
            have h0 : ¬ (none2.1.length + 1 = m) := by show ¬ (0 + 1 = m); omega
            simp only [popsP, if_pos hqm, if_neg h0]
            refine Prod.ext ?_ rfl
            show 1 + k = 0 + (k + 1)
            omega
          · simp
          · intro r hr; rw [List.mem_singleton.mp hr]; show 0 ≤ 1000; omega
          · have h0 : ¬ (none2.1.length + 1 = m) := by show ¬ (0 + 1 = m); omega
            rw [if_neg h0]; rfl
      · change wpAny _ _ _ _ _ _
        have hqm : ¬ (q.1.length + 1 = m) := by omega
        have hpq : popsP m q0 rs0 = (k, q, rs) := by rw [hpop, pops_stop hqm]; exact Prod.ext (Nat.zero_add k) rfl
        have hk9 : k ≤ 401 := by have := pops_le m rs0 q0; rw [hpq] at this; dsimp only at this; omega
        (with_reducible rename Fr _ _ _ _ => Fb)
        (with_reducible rename News _ _ _ _ => Nb)
        have Pa : PileAt h x dx rs.reverse := ⟨vs, ep, hs, tk1, t, (Nb _ (.head _)).1, (Nb _ (.tail _ (.head _))).1, P5.keeps fun b o _ e => Fb.keep b o e⟩
        have Da : h.get? dx = some (dictP hs tk1 t) := (Nb _ (.tail _ (.head _))).1
        have Qa : h.get? p9 = some (tup2 q.1 q.2 u1 u2) := by
          rcases hp5 with hp5 | hp5
          · exact Fb.keep _ _ hp5
          · exact (Nb _ (.tail _ (.tail _ hp5))).1
        have hp9x : p9 ≠ x := fun e => by
          have e' := (Nb _ (.head _)).1
          rw [← e, Qa] at e'; cases e'
        refine c_pushP w p loose mean mg mb _ _ _ _ g x dx rs.reverse _ _ _ _ X2 T2 Fb.keep (hg3 _ (.head _)) (hg3 _ (.tail _ (.head _))) hxd Pa (by simp; omega) ?a0 ?d ?u (fun h5 tk5 hk5 Pb => ?_)
        case a0 => exact rfl
        case d => simp only [depth_deeper]; omega
        case u => simp only [units_deeper]; omega
        have Fc := fr_x Fb hk5 (hg3 _ (.head _)) (Ne.symm hxL)
        have Db := hk5 _ _ (Ne.symm hxd) Da
        have Qb := hk5 _ _ hp9x Qa
        have Nc : News g L' h5 [] := News.nil
        clear Fb Nb
        k_steps
        change wpAny _ _ _ _ _ _
        refine wpAny_For ?_ (by intro _; rfl)
        k_steps
        change wpAny _ _ _ _ _ _
        (with_reducible rename Fr _ _ _ _ => Fa)
        (with_reducible rename IsRange _ _ _ _ _ _ _ _ => Ra)
        rename ∀ (b : Addr) (o : Obj), Heap.get? _ b = some o → Heap.get? _ b = some o => ka
        refine range_loop rfl Ra (by omega) (fun i s' => ForInv s g L' x dx p9 hs tk1 t q u1 u2 (rs.reverse ++ [blank q] ++ List.replicate i zero2) s') ?mv ?st ?sp ?dn (fun _ _ => rfl)
        case mv =>
          intro i s' h' tk' hJ hcl hk'
          exact hJ.move hk' (fun o e => (hcl o e).1) (Fa.ns.lt)
        case st => exact ⟨_, _, _, rfl, Fa, e1, e5, by rw [List.replicate_zero, List.append_nil]; exact Pb.keeps fun b o _ e => ka b o e, ka _ _ Db, ka _ _ Qb⟩
        case sp =>
          rintro i s' oI t' hi ⟨h6, tk6, mm6, rfl, F6, e16, e56, ⟨vs6, ep6, hs6, tk66, t6, a1, a2, a3⟩, D6, Q6⟩ hI hIc
          have hLI := Fa.ns.lt
          clear Fa Ra ka
          refine wpAny_assign_Name (wpAny_storeName_local rfl F6.ns (fun h8 hn8 hs8 => ?_) rfl)
          have F8 : Fr g L' h8 _ := ⟨hn8, fun b o e => hs8.extBut b o (Nat.ne_of_lt (Nat.lt_of_lt_of_le (Heap.lt_size e) F6.above)) (F6.keep b o e), F6.above⟩
          have x8 := hs8.extBut _ _ hxL a1
          have d8 := hs8.extBut _ _ hdL D6
          have p8 : PairsAt h8 vs6 (rs.reverse ++ [blank q] ++ List.replicate i zero2) := pairs_frame a3 F6.ns (fun b o hb e => hs8.extBut b o hb e)
          have hp9L : p9 ≠ L' := fun e => by
            obtain ⟨o, es, ep, h1, h2, _⟩ := F6.ns
            rw [← e, Q6] at h1; cases h1; cases h2
          have q8 := hs8.extBut _ _ hp9L Q6
          have N8 : News g L' h8 [(x, pileO dx vs6 ep6), (dx, dictP hs tk1 t)] := by
            intro p hp
            rcases List.mem_cons.mp hp with rfl | hp
            · exact ⟨x8, hxL, hg3 _ (.head _)⟩
            · rw [List.mem_singleton.mp hp]; exact ⟨d8, hdL, hg3 _ (.tail _ (.head _))⟩
          have len8 : (rs.reverse ++ [blank q] ++ List.replicate i zero2).length ≤ 1000 := by simp; omega
          clear F6
          k_steps
          change wpAny _ _ _ _ _ _
          (with_reducible rename Fr _ _ _ _ => F9)
          refine c_pushP w p loose mean mg mb _ _ _ _ g x dx (rs.reverse ++ [blank q] ++ List.replicate i zero2) _ _ _ _ X2 T2 F9.keep (hg3 _ (.head _)) (hg3 _ (.tail _ (.head _))) hxd ⟨vs6, ep6, hs, tk1, t, x8, d8, p8⟩ len8 ?a0 ?d ?u (fun h' tk' hk' P' => ?_)
          case a0 => exact rfl
          case d => simp only [depth_deeper]; omega
          case u => simp only [units_deeper]; omega
          have F10 := fr_x F9 hk' (hg3 _ (.head _)) (Ne.symm hxL)
          have hIx := ne_iter hI a1 (by rw [hIc]; intro c; cases c)
          k_steps
          show TurnEnd _ _ _ _ _
          exact ⟨⟨h', _, _, rfl, F10, e16, e56, by rw [List.replicate_succ', ← List.append_assoc]; exact P', hk' _ _ (Ne.symm hxd) d8, hk' _ _ hp9x q8⟩, hk' _ _ hIx (hs8.extBut _ _ (Nat.ne_of_gt hLI) hI)⟩
        case dn =>
          rintro s' ⟨h6, tk6, mm6, rfl, F6, e16, e56, P6, D6, Q6⟩
          clear Fa Ra ka
          have N6 : News g L' h6 [] := News.nil
          k_steps
          (with_reducible rename Fr _ _ _ _ => F6)
          refine hret _ _ _ _ _ (fun b o hb e => ?_) ?_ hp9x (by rw [hpq]; exact Q6)
          · by_cases hbd : b = dx
            · rw [hbd, hdx] at e; rw [hbd, D6, ← e]
            · exact F6.keep b o (hg2 b o e (fun hm => by
                rcases List.mem_cons.mp hm with h | h
                · exact hb h
                · exact hbd (List.mem_singleton.mp h)))
          · have em : moreP m n q0 rs0 = rs.reverse ++ [blank q] ++ List.replicate k zero2 := by
              unfold moreP
              rw [hpq]
              dsimp only
              rw [if_pos (by omega)]
            rw [em]; exact P6
      · change wpAny _ _ _ _ _ _
        have hqm : ¬ (q.1.length + 1 = m) := by omega
        have hpq : popsP m q0 rs0 = (k, q, rs) := by rw [hpop, pops_stop hqm]; exact Prod.ext (Nat.zero_add k) rfl
        have hk9 : k ≤ 401 := by have := pops_le m rs0 q0; rw [hpq] at this; dsimp only at this; omega
        (with_reducible rename Fr _ _ _ _ => Fb)
        (with_reducible rename News _ _ _ _ => Nb)
        have Pa : PileAt h x dx rs.reverse := ⟨vs, ep, hs, tk1, t, (Nb _ (.head _)).1, (Nb _ (.tail _ (.head _))).1, P5.keeps fun b o _ e => Fb.keep b o e⟩
        have Da : h.get? dx = some (dictP hs tk1 t) := (Nb _ (.tail _ (.head _))).1
        have Qa : h.get? p9 = some (tup2 q.1 q.2 u1 u2) := by
          rcases hp5 with hp5 | hp5
          · exact Fb.keep _ _ hp5
          · exact (Nb _ (.tail _ (.tail _ hp5))).1
        have hp9x : p9 ≠ x := fun e => by
          have e' := (Nb _ (.head _)).1
          rw [← e, Qa] at e'; cases e'
        have Pb := Pa
        have Db := Da
        have Qb := Qa
        refine wpAny_For ?_ (by intro _; rfl)
        k_steps
        change wpAny _ _ _ _ _ _
        (with_reducible rename Fr _ _ _ _ => Fa)
        (with_reducible rename IsRange _ _ _ _ _ _ _ _ => Ra)
        rename ∀ (b : Addr) (o : Obj), Heap.get? _ b = some o → Heap.get? _ b = some o => ka
        refine range_loop rfl Ra (by omega) (fun i s' => ForInv s g L' x dx p9 hs tk1 t q u1 u2 (rs.reverse ++ List.replicate i zero2) s') ?mv ?st ?sp ?dn (fun _ _ => rfl)
        case mv =>
          intro i s' h' tk' hJ hcl hk'
          exact hJ.move hk' (fun o e => (hcl o e).1) (Fa.ns.lt)
        case st => exact ⟨_, _, _, rfl, Fa, e1, e5, by rw [List.replicate_zero, List.append_nil]; exact Pb.keeps fun b o _ e => ka b o e, ka _ _ Db, ka _ _ Qb⟩
        case sp =>
          rintro i s' oI t' hi ⟨h6, tk6, mm6, rfl, F6, e16, e56, ⟨vs6, ep6, hs6, tk66, t6, a1, a2, a3⟩, D6, Q6⟩ hI hIc
          have hLI := Fa.ns.lt
          clear Fa Ra ka
          refine wpAny_assign_Name (wpAny_storeName_local rfl F6.ns (fun h8 hn8 hs8 => ?_) rfl)
          have F8 : Fr g L' h8 _ := ⟨hn8, fun b o e => hs8.extBut b o (Nat.ne_of_lt (Nat.lt_of_lt_of_le (Heap.lt_size e) F6.above)) (F6.keep b o e), F6.above⟩
          have x8 := hs8.extBut _ _ hxL a1
          have d8 := hs8.extBut _ _ hdL D6
          have p8 : PairsAt h8 vs6 (rs.reverse ++ List.replicate i zero2) := pairs_frame a3 F6.ns (fun b o hb e => hs8.extBut b o hb e)
          have hp9L : p9 ≠ L' := fun e => by
            obtain ⟨o, es, ep, h1, h2, _⟩ := F6.ns
            rw [← e, Q6] at h1; cases h1; cases h2
          have q8 := hs8.extBut _ _ hp9L Q6
          have N8 : News g L' h8 [(x, pileO dx vs6 ep6), (dx, dictP hs tk1 t)] := by
            intro p hp
            rcases List.mem_cons.mp hp with rfl | hp
            · exact ⟨x8, hxL, hg3 _ (.head _)⟩
            · rw [List.mem_singleton.mp hp]; exact ⟨d8, hdL, hg3 _ (.tail _ (.head _))⟩
          have len8 : (rs.reverse ++ List.replicate i zero2).length ≤ 1000 := by simp; omega
          clear F6
          k_steps
          change wpAny _ _ _ _ _ _
          (with_reducible rename Fr _ _ _ _ => F9)
          refine c_pushP w p loose mean mg mb _ _ _ _ g x dx (rs.reverse ++ List.replicate i zero2) _ _ _ _ X2 T2 F9.keep (hg3 _ (.head _)) (hg3 _ (.tail _ (.head _))) hxd ⟨vs6, ep6, hs, tk1, t, x8, d8, p8⟩ len8 ?a0 ?d ?u (fun h' tk' hk' P' => ?_)
          case a0 => exact rfl
          case d => simp only [depth_deeper]; omega
          case u => simp only [units_deeper]; omega
          have F10 := fr_x F9 hk' (hg3 _ (.head _)) (Ne.symm hxL)
          have hIx := ne_iter hI a1 (by rw [hIc]; intro c; cases c)
          k_steps
          show TurnEnd _ _ _ _ _
          exact ⟨⟨h', _, _, rfl, F10, e16, e56, by rw [List.replicate_succ', ← List.append_assoc]; exact P', hk' _ _ (Ne.symm hxd) d8, hk' _ _ hp9x q8⟩, hk' _ _ hIx (hs8.extBut _ _ (Nat.ne_of_gt hLI) hI)⟩
        case dn =>
          rintro s' ⟨h6, tk6, mm6, rfl, F6, e16, e56, P6, D6, Q6⟩
          clear Fa Ra ka
          have N6 : News g L' h6 [] := News.nil
          k_steps
          (with_reducible rename Fr _ _ _ _ => F6)
          refine hret _ _ _ _ _ (fun b o hb e => ?_) ?_ hp9x (by rw [hpq]; exact Q6)
          · by_cases hbd : b = dx
            · rw [hbd, hdx] at e; rw [hbd, D6, ← e]
            · exact F6.keep b o (hg2 b o e (fun hm => by
                rcases List.mem_cons.mp hm with h | h
                · exact hb h
                · exact hbd (List.mem_singleton.mp h)))
          · have em : moreP m n q0 rs0 = rs.reverse ++ List.replicate k zero2 := by
              unfold moreP
              rw [hpq]
              dsimp only
              rw [if_neg (by omega)]
            rw [em]; exact P6
end Mine

end
section
open PySem PySem.W PyProof.Rows PySem.Calls
set_option maxRecDepth 100000
set_option maxHeartbeats 8000000
namespace Mine
theorem find_str (P : Params) : findIn (Mine.frag.heap_1 P) (.ref 122) "__str__" = some (some (.ref 96)) := by kernel_rfl
theorem find_len (P : Params) : findIn (Mine.frag.heap_1 P) (.ref 122) "__len__" = some (some (.ref 89)) := by kernel_rfl
theorem fn_str (P : Params) : isFn (Mine.frag.heap_1 P) (.ref 96) = true := by kernel_rfl
theorem fn_len (P : Params) : isFn (Mine.frag.heap_1 P) (.ref 89) = true := by kernel_rfl
theorem str_pile : ∀ (w : World) (p : Program) (loose : List Str) (mean : ExcName → Option Value) (mg mb : Str → Option Value) (A : Around) (s : Shared) (Q : Value → Shared → Prop) (E : Value → Shared → Prop) (h₀ : Heap) (x dx : Addr) (ts : List (Str × Str)) (ps : Array Value),
   (Mine.frag.heap_1 w.params).In h₀ → Top p loose mean mg mb h₀ → CodeHd h₀ 95 91 → (∀ b o, h₀.get? b = some o → s.heap.get? b = some o) → h₀.get? x = none → h₀.get? dx = none → h₀.get? 91 = none → x ≠ dx →
   PileAt s.heap x dx ts → s.heap.get? 91 = some (tabObj ps) → TabOk strPos ps → (∀ q ∈ ts, q.1.length + q.2.length ≤ 1000) → JoinOk Str.empty (ts.map fun q => Txt.join Str.empty [q.1, q.2]) = true → ts.length ≤ sizeLine → AllBare s.gens → A.handled = none → A.depth + 8 < recursionLimit → A.units + 80 < cLine →
   (∀ s' t ps', (∀ b o, b ≠ 91 → s.heap.get? b = some o → s'.heap.get? b = some o) → s'.heap.get? 91 = some (tabObj ps') → TabOk strPos ps' → AllBare s'.gens → s'.os = s.os → Q (.str (textOf ts) t) s') →
   wpAny (model PySem.Challenge.rw_wu0023_01.row.prog w) A (PySem.call (.type "str") [.ref x]) Q E s := by
  intro w p loose mean mg mb A s Q E h₀ x dx ts ps X T C hk0 hx0 hd0 hP0 hxd hp hP hps hlen hfit hsz G hA0 hA hu hret
  obtain ⟨vs, ep, hs, tk, t, hx, hdx, hts⟩ := hp
  have u2 : A.in1.in1.units ≤ A.units + 8 := by simp only [units_in1]; omega
  refine kso_call (by omega) (X.keeps hk0) (instPile hx hdx) (find_str _) (fn_str _) ?_
  refine c_str w p loose mean mg mb A.in1.in1 s _ _ h₀ x dx vs ep hs tk t ts ps X T C hk0 hx0 hd0 hP0 hxd hx hdx hP hts hps hlen hfit hsz G hA0 hA (by omega) fun s' t' ps' k1 k2 k3 k4 k5 => ?_
  exact hret s' t' ps' k1 k2 k3 k4 k5
theorem len_pile : ∀ (w : World) (p : Program) (loose : List Str) (mean : ExcName → Option Value) (mg mb : Str → Option Value) (A : Around) (s : Shared) (Q : Value → Shared → Prop) (E : Value → Shared → Prop) (h₀ : Heap) (L : Addr) (m : Str → Option Value) (x dx : Addr) (ts : List (Str × Str)) (ps : Array Value),
   (Mine.frag.heap_1 w.params).In h₀ → Top p loose mean mg mb h₀ → CodeHd h₀ 88 84 → Fr h₀ L s.heap m → h₀.get? x = none → h₀.get? dx = none → h₀.get? 84 = none → x ≠ dx →
   PileAt s.heap x dx ts → s.heap.get? 84 = some (tabObj ps) → TabOk lenPos ps → (∀ q ∈ ts, q.1.length + q.2.length ≤ 1000) → ts.length ≤ 1000 → AllBare s.gens → A.handled = none → A.depth + 8 < recursionLimit → A.units + 80 < cLine →
   (∀ s' t ps', (∀ b o, b ≠ 84 → s.heap.get? b = some o → s'.heap.get? b = some o) → s'.heap.get? 84 = some (tabObj ps') → TabOk lenPos ps' → AllBare s'.gens → s'.os = s.os → Q (.int (sizeOf ts) t) s') →
   wpAny (model PySem.Challenge.rw_wu0023_01.row.prog w) A (PySem.call (.builtin "len") [.ref x]) Q E s := by
  intro w p loose mean mg mb A s Q E h₀ L m x dx ts ps X T C F hx0 hd0 hP0 hxd hp hP hps hlen hsz G hA0 hA hu hret
  obtain ⟨vs, ep, hs, tk, t, hx, hdx, hts⟩ := hp
  have u2 : A.in1.units ≤ A.units + 4 := by simp only [units_in1]; omega
  refine len_K F X (instPile hx hdx) (find_len _) (fn_len _) ?_
  refine c_len w p loose mean mg mb A.in1 s _ _ h₀ x dx vs ep hs tk t ts ps X T C F.keep hx0 hd0 hP0 hxd hx hdx hP hts hps hlen (Nat.le_trans hsz (by show 1000 ≤ 2 ^ 24; decide)) G hA0 hA (by omega) fun s' t' ps' k1 k2 k3 k4 k5 => ?_
  refine ⟨⟨Int.natCast_nonneg _, ?_⟩, ?_⟩
  · have h1 := sum_le_of ts hlen
    unfold sizeOf
    omega
  · exact hret { s' with toks := s'.toks + 1 } s'.toks ps' k1 k2 k3 k4 k5
end Mine

end
section
open PySem PySem.W PyProof.Rows PySem.Calls
set_option maxRecDepth 100000
set_option maxHeartbeats 8000000
namespace Mine
section
variable {prog : Program} {w : World} {A : Around} {R : Result → Shared → Prop} {s : Shared}
theorem turn2_outer (elt t1 iter1 t2 iter2 : Expr) (scope : Scope) (pos : Pos) (it acc : Value) (env : Env) :
    compTurn (.ListComp elt [⟨t1, iter1, [], 0⟩, ⟨t2, iter2, [], 0⟩] scope pos) 0 it acc env = (standAt iter1.pos >>= fun _ => pyNext it >>= fun r => match r with
      | none => pure (.done .next)
      | some v => letOwnedTupleGo t1 it v >>= fun _ => assign t1 env v >>= fun _ => (eval iter2 env >>= fun x => standAt iter2.pos >>= fun _ => foldedSetIterable iter2 env x >>= fun x => holding [x] (pyIter x) >>= fun i2 =>
          runOwn (.compStart (.ListComp elt [⟨t1, iter1, [], 0⟩, ⟨t2, iter2, [], 0⟩] scope pos) 1 i2 acc env) env >>= fun _ => again (.compLoop (.ListComp elt [⟨t1, iter1, [], 0⟩, ⟨t2, iter2, [], 0⟩] scope pos) 0 it acc env))) := by rfl
theorem turn2_inner (elt t1 iter1 t2 iter2 : Expr) (scope : Scope) (pos : Pos) (it acc : Value) (env : Env) :
    compTurn (.ListComp elt [⟨t1, iter1, [], 0⟩, ⟨t2, iter2, [], 0⟩] scope pos) 1 it acc env = (standAt iter2.pos >>= fun _ => pyNext it >>= fun r => match r with
      | none => pure (.done .next)
      | some v => letOwnedTupleGo t2 it v >>= fun _ => assign t2 env v >>= fun _ =>
        (eval elt env >>= fun x => call (.builtin "list.append") [acc, x] >>= fun _ => pure ()) >>= fun _ =>
          again (.compLoop (.ListComp elt [⟨t1, iter1, [], 0⟩, ⟨t2, iter2, [], 0⟩] scope pos) 1 it acc env)) := by rfl
theorem comp_inner {elt t1 iter1 t2 iter2 : Expr} {scope : Scope} {pos : Pos} {it acc : Value} {env : Env} (I : Nat → Shared → Prop)
    (turn : ∀ n s, I n s → wpAny (model prog w) A (pyNext it) (fun r s₁ => match r with
      | none => R (.ok .next) s₁
      | some v => wpAny (model prog w) A (assign t2 env v) (fun _ s₂ => wpAny (model prog w) A (eval elt env) (fun x s₃ =>
          wpAny (model prog w) A (call (.builtin "list.append") [acc, x]) (fun _ s₄ => ∃ m, m < n ∧ I m s₄) (notedBy (model prog w) A env fun e s' => R (.error e) s') s₃)
          (notedBy (model prog w) A env fun e s' => R (.error e) s') s₂) (notedBy (model prog w) A env fun e s' => R (.error e) s') s₁) (notedBy (model prog w) A env fun e s' => R (.error e) s') s)
    (n : Nat) (h : I n s) (ht : ∀ v, letOwnedTupleGo t2 it v = pure ()) :
    codeAny (model prog w) A (.compLoop (.ListComp elt [⟨t1, iter1, [], 0⟩, ⟨t2, iter2, [], 0⟩] scope pos) 1 it acc env) R s := by
  refine codeAny_loop rfl I (fun n s hI => ?_) n h
  show wpAny _ _ ((compTurn (.ListComp elt [⟨t1, iter1, [], 0⟩, ⟨t2, iter2, [], 0⟩] scope pos) 1 it acc env).onRaise (fun x => do noteFrame x env; theTreesLotGoes x)) _ _ s
  refine wpAny_noted ?_
  rw [turn2_inner]
  refine wpAny_bind (wpAny_standAt (wpAny_bind (wpAny_mono (turn n s hI) (fun r s₁ h₁ => ?_) fun _ _ h' => h')))
  cases r with
  | none => exact wpAny_pure h₁
  | some v =>
    refine wpAny_bind (wpAny_of_eq (ht v) ?_)
    refine wpAny_bind (wpAny_mono h₁ (fun _ s₂ h₂ => ?_) fun _ _ h' => h')
    refine wpAny_bind (wpAny_bind (wpAny_mono h₂ (fun x s₃ h₃ => wpAny_bind (wpAny_mono h₃ (fun _ s₄ h₄ => wpAny_pure (wpAny_pure ⟨rfl, h₄⟩)) fun _ _ h' => h')) fun _ _ h' => h'))
theorem comp_outer {elt t1 iter1 t2 iter2 : Expr} {scope : Scope} {pos : Pos} {it acc : Value} {env : Env} (I : Nat → Shared → Prop)
    (turn : ∀ n s, I n s → wpAny (model prog w) A (pyNext it) (fun r s₁ => match r with
      | none => R (.ok .next) s₁
      | some v => wpAny (model prog w) A (assign t1 env v) (fun _ s₂ => wpAny (model prog w) A (eval iter2 env) (fun x s₃ => wpAny (model prog w) A (pyIter x) (fun i2 s₄ =>
          codeAny (model prog w) A (.compStart (.ListComp elt [⟨t1, iter1, [], 0⟩, ⟨t2, iter2, [], 0⟩] scope pos) 1 i2 acc env) (fun r s' => match r with
            | .ok _ => ∃ m, m < n ∧ I m s'
            | .error e => cameBackBy (model prog w) A env (notedBy (model prog w) A env fun e s' => R (.error e) s') e s') s₄)
          (notedBy (model prog w) A env fun e s' => R (.error e) s') s₃) (notedBy (model prog w) A env fun e s' => R (.error e) s') s₂) (notedBy (model prog w) A env fun e s' => R (.error e) s') s₁) (notedBy (model prog w) A env fun e s' => R (.error e) s') s)
    (n : Nat) (h : I n s) (ht : ∀ v, letOwnedTupleGo t1 it v = pure ()) (hs : ∀ x, foldedSetIterable iter2 env x = pure x) :
    codeAny (model prog w) A (.compLoop (.ListComp elt [⟨t1, iter1, [], 0⟩, ⟨t2, iter2, [], 0⟩] scope pos) 0 it acc env) R s := by
  refine codeAny_loop rfl I (fun n s hI => ?_) n h
  show wpAny _ _ ((compTurn (.ListComp elt [⟨t1, iter1, [], 0⟩, ⟨t2, iter2, [], 0⟩] scope pos) 0 it acc env).onRaise (fun x => do noteFrame x env; theTreesLotGoes x)) _ _ s
  refine wpAny_noted ?_
  rw [turn2_outer]
  refine wpAny_bind (wpAny_standAt (wpAny_bind (wpAny_mono (turn n s hI) (fun r s₁ h₁ => ?_) fun _ _ h' => h')))
  cases r with
  | none => exact wpAny_pure h₁
  | some v =>
    refine wpAny_bind (wpAny_of_eq (ht v) ?_)
    refine wpAny_bind (wpAny_mono h₁ (fun _ s₂ h₂ => ?_) fun _ _ h' => h')
    refine wpAny_bind (wpAny_mono h₂ (fun x s₃ h₃ => ?_) fun _ _ h' => h')
    refine wpAny_bind (wpAny_standAt (wpAny_bind (wpAny_of_eq (hs x) (wpAny_bind (wpAny_holding (wpAny_mono h₃ (fun i2 s₄ h₄ => ?_) fun _ _ h' => h'))))))
    refine wpAny_bind (wpAny_runOwn (codeAny_mono h₄ fun r s' hr => ?_))
    cases r with
    | ok f => exact wpAny_pure ⟨rfl, hr⟩
    | error e => exact hr
end
end Mine

end
section
open PySem PySem.W PyProof.Rows PySem.Calls
set_option maxRecDepth 100000
set_option maxHeartbeats 8000000
namespace Mine
abbrev Col := UInt64 × UInt64 × UInt64
noncomputable def RowAt (h : Heap) (ys : List Value) (cs : List Col) : Prop := ys.length = cs.length ∧ ∀ (j : Nat) (c : Col), cs[j]? = some c → ∃ (a : Addr) (t1 t2 t3 : Tok), ys[j]? = some (Value.ref a) ∧ h.get? a = some (tup3 c.1 c.2.1 c.2.2 t1 t2 t3)
theorem RowAt.keeps {h h' : Heap} {ys : List Value} {cs : List Col} (p : RowAt h ys cs) (k : ∀ b o r, o.cls = .type "tuple" → o.data = .seq r 0 → h.get? b = some o → h'.get? b = some o) : RowAt h' ys cs :=
  ⟨p.1, fun j q e => let ⟨a, t1, t2, t3, e1, e2⟩ := p.2 j q e; ⟨a, t1, t2, t3, e1, k _ _ _ rfl rfl e2⟩⟩
theorem RowAt.snoc {h : Heap} {ys : List Value} {cs : List Col} {a : Addr} {c : Col} {t1 t2 t3 : Tok} (p : RowAt h ys cs) (e : h.get? a = some (tup3 c.1 c.2.1 c.2.2 t1 t2 t3)) : RowAt h (ys ++ [.ref a]) (cs ++ [c]) := by
  refine ⟨by simp [p.1], fun j r er => ?_⟩
  by_cases hj : j < cs.length
  · rw [List.getElem?_append_left hj] at er
    obtain ⟨a', u1, u2, u3, e1, e2⟩ := p.2 j r er
    exact ⟨a', u1, u2, u3, by rw [List.getElem?_append_left (by rw [p.1]; exact hj)]; exact e1, e2⟩
  · have hlt := (List.getElem?_eq_some_iff.mp er).1
    have hj' : j = cs.length := by simp at hlt; omega
    subst hj'
    simp at er
    subst er
    exact ⟨a, t1, t2, t3, by rw [← p.1]; simp, e⟩
theorem RowAt.append {h : Heap} {ys zs : List Value} {cs ds : List Col} (p : RowAt h ys cs) (q : RowAt h zs ds) : RowAt h (ys ++ zs) (cs ++ ds) := by
  refine ⟨by simp [p.1, q.1], fun j r er => ?_⟩
  by_cases hj : j < cs.length
  · rw [List.getElem?_append_left hj] at er
    obtain ⟨a', u1, u2, u3, e1, e2⟩ := p.2 j r er
    exact ⟨a', u1, u2, u3, by rw [List.getElem?_append_left (by rw [p.1]; exact hj)]; exact e1, e2⟩
  · rw [List.getElem?_append_right (by omega)] at er
    obtain ⟨a', u1, u2, u3, e1, e2⟩ := q.2 _ r er
    exact ⟨a', u1, u2, u3, by rw [List.getElem?_append_right (by rw [p.1]; omega), p.1]; exact e1, e2⟩
noncomputable def NewAll (H : Heap) (ys : List Value) : Prop := ∀ v ∈ ys, ∃ a, v = Value.ref a ∧ H.get? a = none
noncomputable def flatTo (f : Nat → Col → Col) (cs : List Col) : Nat → List Col
  | 0 => []
  | i + 1 => flatTo f cs i ++ cs.map (f i)
theorem newAll_snoc {H : Heap} {ys : List Value} {a : Addr} (h : NewAll H ys) (e : H.get? a = none) : NewAll H (ys ++ [.ref a]) := fun v hv => by
  rcases List.mem_append.mp hv with hv | hv
  · exact h v hv
  · exact ⟨a, List.mem_singleton.mp hv, e⟩
theorem none_of {H h : Heap} {a : Addr} (k : ∀ b o, H.get? b = some o → h.get? b = some o) (e : h.get? a = none) : H.get? a = none := by
  cases q : H.get? a with
  | none => rfl
  | some o => rw [k _ _ q] at e; cases e
section
variable {prog : Program} {w : World} {A : Around} {R : Result → Shared → Prop} {s : Shared} {E : Value → Shared → Prop}
theorem start1 {elt t1 iter1 t2 iter2 scope pos it acc env}
    (h0 : codeAny (model prog w) A (.compLoop (.ListComp elt [⟨t1, iter1, [], 0⟩, ⟨t2, iter2, [], 0⟩] scope pos) 1 it acc env) R s)
    (h : wpAny (model prog w) A (pyIter it) (fun it' s' => codeAny (model prog w) A (.compLoop (.ListComp elt [⟨t1, iter1, [], 0⟩, ⟨t2, iter2, [], 0⟩] scope pos) 1 it' acc env) R s')
      (notedBy (model prog w) A env fun x s' => R (.error x) s') s) :
    codeAny (model prog w) A (.compStart (.ListComp elt [⟨t1, iter1, [], 0⟩, ⟨t2, iter2, [], 0⟩] scope pos) 1 it acc env) R s := by
  refine codeAny_of_tree ?_
  show wpAny _ _ ((compStart (.ListComp elt [⟨t1, iter1, [], 0⟩, ⟨t2, iter2, [], 0⟩] scope pos) 1 it acc env).onRaise (fun x => do noteFrame x env; standAt theWindowsPlace)) _ _ s
  refine wpAny_notedAt ?_
  unfold compStart
  show wpAny _ _ (ask >>= _) _ _ s
  refine wpAny_bind (wpAny_askSetting (wpAny_ite ?_))
  split
  · first
      | exact wpAny_bind (wpAny_pure (wpAny_pure (And.intro rfl h0)))
      | exact wpAny_pure (And.intro rfl h0)
  · first
      | exact wpAny_bind (wpAny_rule (wpAny_bind (wpAny_standAt (wpAny_bind (wpAny_mono h (fun it' s' h' => wpAny_pure (And.intro rfl h')) fun _ _ x => x)))))
      | (refine wpAny_bind (wpAny_rule ?_); show wpAny _ _ (standAt iter2.pos >>= _) _ _ s; exact wpAny_bind (wpAny_standAt (wpAny_bind (wpAny_mono h (fun it' s' h' => wpAny_pure (And.intro rfl h')) fun _ _ x => x))))
theorem inner_loop {elt t1 iter1 iter2 : Expr} {x1 x2 : Str} {px2 : Pos} {scope : Scope} {cl : List (Str × Addr)} {pos : Pos} {env : Env} {H h₀ : Heap} {C D I I2 ar : Addr} {oI : Obj} {vs : List Value} {cs dn : List Col} {f : Col → Col} {k : Int} {tk1 : Tok} {tk₀ : Nat} {ys₀ : List Value} {mm₀ : Str → Option Value}
    (hh : A.handled = none) (hkind : scope.kind = .function) (hx2 : scope.names.lookup x2 = some .local) (h12 : x1 ≠ x2)
    (hCD : C ≠ D) (hCI : C ≠ I) (hCJ : C ≠ I2) (hDI : D ≠ I) (hDJ : D ≠ I2) (hIJ : I ≠ I2) (nC : H.get? C = none) (nD : H.get? D = none) (nJ : H.get? I2 = none)
    (hl : H.IsList ar vs.toArray) (hrow : RowAt H vs cs) (hsz : dn.length + cs.length ≤ 100000)
    (helt : ∀ c h tk mm a t1 t2 t3 (E' : Value → Shared → Prop), c ∈ cs → Value.ref a ∈ vs → (∀ b o, H.get? b = some o → h.get? b = some o) → h.Ns C mm → mm x1 = some (.int k tk1) → mm x2 = some (.ref a) → h.get? a = some (tup3 c.1 c.2.1 c.2.2 t1 t2 t3) →
      wpAny (model prog w) A (eval elt (compEnvC scope cl C env)) (fun y s' => ∃ h' tk' a' u1 u2 u3, s' = { s with heap := h', toks := tk' } ∧ (∀ b o, h.get? b = some o → h'.get? b = some o) ∧ y = .ref a' ∧ h.get? a' = none ∧ h'.get? a' = some (tup3 (f c).1 (f c).2.1 (f c).2.2 u1 u2 u3)) E' { s with heap := h, toks := tk })
    (k0 : ∀ b o, H.get? b = some o → h₀.get? b = some o) (hit : h₀.IsListIter I2 ar 0) (hn : h₀.Ns C mm₀) (hm : mm₀ x1 = some (.int k tk1)) (hD : h₀.get? D = some (LCg.lst ys₀)) (hR : RowAt h₀ ys₀ dn) (hW : NewAll H ys₀) (hI : h₀.get? I = some oI)
    (fin : ∀ h tk ys mm, (∀ b o, H.get? b = some o → h.get? b = some o) → h.Ns C mm → h.get? D = some (LCg.lst ys) → RowAt h ys (dn ++ cs.map f) → NewAll H ys → h.get? I = some oI → R (.ok .next) { s with heap := h, toks := tk }) :
    codeAny (model prog w) A (.compLoop (.ListComp elt [⟨t1, iter1, [], 0⟩, ⟨.Name x2 px2, iter2, [], 0⟩] scope pos) 1 (.ref I2) (.ref D) (compEnvC scope cl C env)) R { s with heap := h₀, toks := tk₀ } := by
  have lvc : vs.length = cs.length := hrow.1
  refine comp_inner (fun z s' => ∃ h tk j ys mm, s' = { s with heap := h, toks := tk } ∧ j ≤ vs.length ∧ z = vs.length - j ∧ (∀ b o, H.get? b = some o → h.get? b = some o) ∧ h.IsListIter I2 ar j ∧ h.Ns C mm ∧ mm x1 = some (.int k tk1) ∧ h.get? D = some (LCg.lst ys) ∧ RowAt h ys (dn ++ (cs.take j).map f) ∧ NewAll H ys ∧ h.get? I = some oI) ?_ vs.length
    ⟨h₀, tk₀, 0, ys₀, mm₀, rfl, Nat.zero_le _, rfl, k0, hit, hn, hm, hD, by simpa using hR, hW, hI⟩ (fun _ => rfl)
  rintro z s' ⟨h, tk, j, ys, mm, rfl, hj, rfl, kh, hit', hn', hm', hD', hR', hW', hI'⟩
  have hl' : h.IsList ar vs.toArray := let ⟨o, e, r⟩ := hl; ⟨o, kh _ _ e, r⟩
  by_cases hlt : j < vs.length
  · have hjc : j < cs.length := by omega
    obtain ⟨a, t1, t2, t3, ea, eo⟩ := hrow.2 j cs[j] (List.getElem?_eq_getElem hjc)
    refine wpAny_pyNext_list_item hit' hl' (x := .ref a) (by rw [List.getElem?_toArray]; exact ea) fun h1 hit1 hs1 => ?_
    have k1 : ∀ b o, b ≠ I2 → h.get? b = some o → h1.get? b = some o := fun b o hb e => hs1.extBut b o hb e
    refine wpAny_assign_Name (wpAny_storeName_local (lookup_relabel_local hx2) (hn'.at' fun o e => k1 C o hCJ e) (fun h2 hn2 hs2 => ?_) (by simp [compEnvC, relabel, hkind]))
    have k2 : ∀ b o, b ≠ I2 → b ≠ C → h.get? b = some o → h2.get? b = some o := fun b o hb hc e => hs2.extBut b o hc (k1 b o hb e)
    have kH2 : ∀ b o, H.get? b = some o → h2.get? b = some o := fun b o e => k2 b o (fun q => by rw [q, nJ] at e; cases e) (fun q => by rw [q, nC] at e; cases e) (kh b o e)
    refine wpAny_mono (helt cs[j] h2 _ _ a t1 t2 t3 _ (List.getElem_mem hjc) (List.mem_of_getElem? ea) kH2 hn2 (by simp [h12, hm']) (by simp) (kH2 _ _ eo)) (fun y s3 r => ?_) fun _ _ e => e
    obtain ⟨h3, tk3, a', u1, u2, u3, rfl, k3, rfl, n3, e3⟩ := r
    have hD3 : h3.get? D = some (LCg.lst ys) := k3 _ _ (k2 _ _ hDJ (Ne.symm hCD) hD')
    have len3 : ys.length ≤ 100000 := by
      have := hR'.1
      simp at this
      omega
    refine append_at (hsz := by show ys.toArray.size ≤ 2 ^ 24; rw [List.size_toArray]; omega) hD3 fun h4 hs4 hD4 => ?_
    have k4 : ∀ b o, b ≠ D → h3.get? b = some o → h4.get? b = some o := fun b o hb e => hs4.extBut b o hb e
    have tupN : ∀ (b : Addr) (o : Obj) (r : Array Value), o.cls = .type "tuple" → o.data = .seq r 0 → h.get? b = some o → b ≠ I2 ∧ b ≠ C ∧ b ≠ D := fun b o r hc hd e => by
      refine ⟨fun q => ?_, fun q => ?_, fun q => ?_⟩
      · obtain ⟨o', e', c', _⟩ := hit'
        rw [← q, e] at e'; cases e'; rw [hc] at c'; simp at c'
      · obtain ⟨o', es, ep, e', d', _⟩ := hn'
        rw [← q, e] at e'; cases e'; rw [hd] at d'; cases d'
      · rw [q, hD'] at e; cases e; simp at hc
    refine ⟨vs.length - (j + 1), by omega, h4, tk3, j + 1, ys ++ [.ref a'], _, rfl, hlt, rfl, fun b o e => k4 b o (fun q => by rw [q, nD] at e; cases e) (k3 _ _ (kH2 b o e)), ?_, (hn2.keeps k3).at' (fun o e => k4 C o hCD e), by simp [h12, hm'], hD4.trans (congrArg some (LCg.lst_snoc ys _)), ?_, newAll_snoc hW' (none_of kH2 n3), k4 _ _ (Ne.symm hDI) (k3 _ _ (k2 _ _ hIJ (Ne.symm hCI) hI'))⟩
    · obtain ⟨o, e, r⟩ := hit1
      exact ⟨o, k4 _ _ (Ne.symm hDJ) (k3 _ _ (hs2.extBut _ _ (Ne.symm hCJ) e)), r⟩
    · rw [List.take_succ_eq_append_getElem hjc, List.map_append, ← List.append_assoc]
      refine RowAt.snoc (hR'.keeps fun b o r hc hd e => ?_) (k4 _ _ (fun q => by rw [q, hD3] at e3; simp [tup3] at e3) e3)
      obtain ⟨n1, n2, n3⟩ := tupN b o r hc hd e
      exact k4 _ _ n3 (k3 _ _ (k2 _ _ n1 n2 e))
  · obtain rfl : j = vs.length := Nat.le_antisymm hj (Nat.not_lt.mp hlt)
    refine wpAny_pyNext_list_end hh hit' hl' (by simp) fun h1 hs1 => ?_
    have k1 : ∀ b o, b ≠ I2 → h.get? b = some o → h1.get? b = some o := fun b o hb e => hs1 b o hb e
    refine fin h1 _ ys mm (fun b o e => k1 b o (fun q => by rw [q, nJ] at e; cases e) (kh b o e)) (hn'.at' fun o e => k1 C o hCJ e) (k1 _ _ hDJ hD') ?_ hW' (k1 _ _ hIJ hI')
    rw [lvc, List.take_length] at hR'
    refine hR'.keeps fun b o r hc hd e => k1 b o (fun q => ?_) e
    obtain ⟨o', e', c', _⟩ := hit'
    rw [← q, e] at e'; cases e'; rw [hc] at c'; simp at c'
theorem flat_len (f : Nat → Col → Col) (cs : List Col) : ∀ i, (flatTo f cs i).length = i * cs.length
  | 0 => by simp [flatTo]
  | i + 1 => by rw [flatTo, List.length_append, flat_len f cs i, List.length_map, Nat.succ_mul]
theorem comp2 {elt iter1 iter2 : Expr} {x1 x2 : Str} {px1 px2 : Pos} {scope : Scope} {cl : List (Str × Addr)} {pos : Pos} {env : Env} {Q : Value → Shared → Prop}
    (hh : A.handled = none) (hclos : closureFor scope env = pure cl) (hcell : ∀ y ∈ scope.names, y.2 ≠ .cell) (hkind : scope.kind = .function)
    (hnames : ∀ y ∈ scope.names, y.2 = .local → scope.names.lookup y.1 = some .local) (hx1 : scope.names.lookup x1 = some .local) (hx2 : scope.names.lookup x2 = some .local) (h12 : x1 ≠ x2)
    (hs1 : ∀ x, foldedSetIterable iter1 env x = pure x) (hs2 : ∀ e x, foldedSetIterable iter2 e x = pure x)
    (h : wpAny (model prog w) A (eval iter1 env) (fun xv s₁ => ∃ (r : Addr) (n : Nat) (t u v : Tok) (ar : Addr) (vs : List Value) (cs : List Col) (f : Nat → Col → Col), xv = .ref r ∧ IsRange s₁.heap r 1 ((n : Int) + 1) 1 t u v ∧ n ≤ 1000 ∧ s₁.heap.IsList ar vs.toArray ∧ RowAt s₁.heap vs cs ∧ (n + 1) * cs.length ≤ 100000 ∧
      (∀ (C : Addr) (h : Heap) (tk : Nat) (Q' E' : Value → Shared → Prop), (∀ b o, s₁.heap.get? b = some o → h.get? b = some o) → Q' (.ref ar) { s₁ with heap := h, toks := tk } → wpAny (model prog w) A (eval iter2 (compEnvC scope cl C env)) Q' E' { s₁ with heap := h, toks := tk }) ∧
      (∀ i c C h tk mm a t1 t2 t3 tk1 (E' : Value → Shared → Prop), i < n → c ∈ cs → Value.ref a ∈ vs → (∀ b o, s₁.heap.get? b = some o → h.get? b = some o) → h.Ns C mm → s₁.heap.objs.size ≤ C → mm x1 = some (.int (1 + (i : Int)) tk1) → mm x2 = some (.ref a) → h.get? a = some (tup3 c.1 c.2.1 c.2.2 t1 t2 t3) →
        wpAny (model prog w) A (eval elt (compEnvC scope cl C env)) (fun y s' => ∃ h' tk' a' u1 u2 u3, s' = { s₁ with heap := h', toks := tk' } ∧ (∀ b o, h.get? b = some o → h'.get? b = some o) ∧ y = .ref a' ∧ h.get? a' = none ∧ h'.get? a' = some (tup3 (f i c).1 (f i c).2.1 (f i c).2.2 u1 u2 u3)) E' { s₁ with heap := h, toks := tk }) ∧
      (∀ D h tk ys, (∀ b o, s₁.heap.get? b = some o → h.get? b = some o) → s₁.heap.get? D = none → h.get? D = some (LCg.lst ys) → RowAt h ys (flatTo f cs n) → NewAll s₁.heap ys → Q (.ref D) { s₁ with heap := h, toks := tk })) E s) :
    wpAny (model prog w) A (eval (.ListComp elt [⟨.Name x1 px1, iter1, [], 0⟩, ⟨.Name x2 px2, iter2, [], 0⟩] scope pos) env) Q E s := by
  rw [eval_ListComp]
  refine wpAny_comprehension_free (use := none) rfl hs1 hclos hkind hnames (wpAny_mono h (fun xv s₁ h₁ => ?_) fun _ _ e => e)
  obtain ⟨r, n, t, u, v, ar, vs, cs, f, rfl, hr, hn, hl, hrow, hsz, hit2, helt, fin⟩ := h₁
  have hsm : Builtin.Range.small 1 ((n : Int) + 1) 1 = true := small_one (by omega) (by omega) (by omega) (by omega)
  have hns : Builtin.Range.rangeSize 1 ((n : Int) + 1) 1 = ((n : Nat) : Int) := by rw [rangeSize_one]; split <;> omega
  refine wpAny_pyIter_range hr hsm ?_
  rw [hns]
  generalize hH1 : s₁.heap.push _ = H1
  have z1 : H1.objs.size = s₁.heap.objs.size + 1 := by rw [← hH1, Heap.size_push]
  have up1 : ∀ b o, s₁.heap.get? b = some o → H1.get? b = some o := fun b o e => hH1 ▸ Heap.get?_push_of_some _ e
  have hI1 : IsRangeIter H1 s₁.heap.objs.size (1 + ((0 : Nat) : Int) * 1) ((n : Int) - ((0 : Nat) : Int)) 1 := by
    show H1.get? _ = _
    rw [← hH1]
    simpa using Heap.get?_push_size _ rfl
  refine wpAny_newObj_type (wpAny_newFunctionEnv hcell (by intro y hy; simp at hy) (fun h₁ hns₁ hsb₁ => ?_) hkind)
  dsimp only at hns₁ hsb₁ ⊢
  generalize hH2 : H1.push { cls := .type "list", dict := none, data := .seq ([] : List Value).toArray } = H2 at hns₁ hsb₁ ⊢
  have z2 : H2.objs.size = s₁.heap.objs.size + 2 := by rw [← hH2, Heap.size_push, z1]
  have none₁ : ∀ a, s₁.heap.objs.size ≤ a → s₁.heap.get? a = none := fun a ha => Heap.get?_none_of_le ha
  have up2 : ∀ b o, b < H2.objs.size → H2.get? b = some o → h₁.get? b = some o := fun b o hb e => hsb₁.extBut b o (Nat.ne_of_lt hb) (Heap.get?_push_of_some _ e)
  have up3 : ∀ b o, H1.get? b = some o → h₁.get? b = some o := fun b o e => up2 b o (Nat.lt_of_lt_of_le (Heap.lt_size e) (by omega)) (hH2 ▸ Heap.get?_push_of_some _ e)
  have hD1 : h₁.get? H1.objs.size = some (LCg.lst []) := up2 _ _ (by omega) (hH2 ▸ Heap.get?_push_size _ rfl)
  have hst₁ : IsRangeIter h₁ s₁.heap.objs.size (1 + ((0 : Nat) : Int) * 1) ((n : Int) - ((0 : Nat) : Int)) 1 := up3 _ _ hI1
  have W := LCg.range_walks (prog := prog) (w := w) (I := s₁.heap.objs.size) hh 1 n
  have hCD : H2.objs.size ≠ H1.objs.size := by omega
  have hCI : H2.objs.size ≠ s₁.heap.objs.size := by omega
  have hDI : H1.objs.size ≠ s₁.heap.objs.size := by omega
  have nC := none₁ H2.objs.size (by omega)
  have nD := none₁ H1.objs.size (by omega)
  have nI := none₁ s₁.heap.objs.size (Nat.le_refl _)
  have loop : ∀ s₃ : Shared, s₃ = { s₁ with heap := h₁, toks := s₁.toks + ([] : List (Str × Value)).length } →
      codeAny (model prog w) A (.compLoop (.ListComp elt [⟨.Name x1 px1, iter1, [], 0⟩, ⟨.Name x2 px2, iter2, [], 0⟩] scope pos) 0 (.ref s₁.heap.objs.size) (.ref H1.objs.size) (compEnvC scope cl H2.objs.size env)) (compPost (model prog w) A E none Q (.ref H1.objs.size) H2.objs.size) s₃ := by
    rintro s₃ rfl
    refine comp_outer (fun z s' => ∃ h tk i ys mm, s' = { s₁ with heap := h, toks := tk } ∧ i ≤ n ∧ z = n - i ∧ (∀ b o, s₁.heap.get? b = some o → h.get? b = some o) ∧ IsRangeIter h s₁.heap.objs.size (1 + (i : Nat) * 1) ((n : Int) - (i : Nat)) 1 ∧ h.Ns H2.objs.size mm ∧ h.get? H1.objs.size = some (LCg.lst ys) ∧ RowAt h ys (flatTo f cs i) ∧ NewAll s₁.heap ys ∧ H2.objs.size < h.objs.size) ?_ n
      ⟨h₁, _, 0, [], _, rfl, Nat.zero_le _, rfl, fun b o e => up3 b o (up1 b o e), hst₁, hns₁, hD1, ⟨rfl, fun j r e => by simp [flatTo] at e⟩, (fun v hv => nomatch hv), hns₁.lt⟩ (fun _ => rfl) (hs2 _)
    rintro z s' ⟨h, tk, i, ys, mm, rfl, hi, rfl, kh, hit, hnn, hD, hR, hW, hlt9⟩
    have hit' : h.get? s₁.heap.objs.size = some _ := hit
    by_cases hlt : i < n
    · refine W.item i _ _ _ hlt hit fun v h1 tk1 hP st1 hk1 => ?_
      obtain ⟨t', rfl⟩ := hP
      have st1' : h1.get? s₁.heap.objs.size = some _ := st1
      have k1 : ∀ b o, b ≠ s₁.heap.objs.size → h.get? b = some o → h1.get? b = some o := fun b o hb e => hk1 b o (fun q => hb (List.mem_singleton.mp q)) e
      refine wpAny_assign_Name (wpAny_storeName_local (lookup_relabel_local hx1) (hnn.at' fun o e => k1 _ o hCI e) (fun h2 hn2 hs2 => ?_) (by simp [compEnvC, relabel, hkind]))
      have k2 : ∀ b o, b ≠ s₁.heap.objs.size → b ≠ H2.objs.size → h.get? b = some o → h2.get? b = some o := fun b o hb hc e => hs2.extBut b o hc (k1 b o hb e)
      have kH2 : ∀ b o, s₁.heap.get? b = some o → h2.get? b = some o := fun b o e => k2 b o (fun q => by rw [q, nI] at e; cases e) (fun q => by rw [q, nC] at e; cases e) (kh b o e)
      refine hit2 _ h2 _ _ _ kH2 ?_
      have hl2 : h2.IsList ar vs.toArray := let ⟨o, e, r⟩ := hl; ⟨o, kH2 _ _ e, r⟩
      refine wpAny_pyIter_list hl2 ?_
      have i2 := hs2.extBut _ _ (Ne.symm hCI) st1'
      have d2 := k2 _ _ hDI (Ne.symm hCD) hD
      have tupN : ∀ (b : Addr) (o : Obj) (r : Array Value), o.cls = .type "tuple" → o.data = .seq r 0 → h.get? b = some o → b ≠ s₁.heap.objs.size ∧ b ≠ H2.objs.size := fun b o r hc hd e => by
        refine ⟨fun q => ?_, fun q => ?_⟩
        · rw [q, hit'] at e; cases e; simp at hc
        · obtain ⟨o', es, ep, e', d', _⟩ := hnn
          rw [← q, e] at e'; cases e'; rw [hd] at d'; cases d'
      have go := fun (tk9 : Nat) => inner_loop (prog := prog) (w := w) (A := A) (R := fun r s' => match r with
            | .ok _ => ∃ m, m < n - i ∧ (fun z s' => ∃ h tk i ys mm, s' = { s₁ with heap := h, toks := tk } ∧ i ≤ n ∧ z = n - i ∧ (∀ b o, s₁.heap.get? b = some o → h.get? b = some o) ∧ IsRangeIter h s₁.heap.objs.size (1 + (i : Nat) * 1) ((n : Int) - (i : Nat)) 1 ∧ h.Ns H2.objs.size mm ∧ h.get? H1.objs.size = some (LCg.lst ys) ∧ RowAt h ys (flatTo f cs i) ∧ NewAll s₁.heap ys ∧ H2.objs.size < h.objs.size) m s'
            | .error e => cameBackBy (model prog w) A (compEnvC scope cl H2.objs.size env) (notedBy (model prog w) A (compEnvC scope cl H2.objs.size env) fun e s' => compPost (model prog w) A E none Q (.ref H1.objs.size) H2.objs.size (.error e) s') e s')
          (s := s₁) (elt := elt) (t1 := .Name x1 px1) (iter1 := iter1) (iter2 := iter2) (x1 := x1) (x2 := x2) (px2 := px2) (scope := scope) (cl := cl) (pos := pos) (env := env) (H := s₁.heap) (h₀ := h2.push { cls := .type "list_iterator", data := .fields #[.ref ar, .int 0 0] }) (C := H2.objs.size) (D := H1.objs.size) (I := s₁.heap.objs.size) (I2 := h2.objs.size) (ar := ar) (vs := vs) (cs := cs) (dn := flatTo f cs i) (f := f i) (k := 1 + (i : Int)) (tk1 := t') (tk₀ := tk9) (ys₀ := ys)
          hh hkind hx2 h12 hCD hCI (Nat.ne_of_lt hn2.lt) hDI (Nat.ne_of_lt (Heap.lt_size d2)) (Nat.ne_of_lt (Heap.lt_size i2)) nC nD
          (by cases q : s₁.heap.get? h2.objs.size with
            | none => rfl
            | some o => exact absurd (Heap.lt_size (kH2 _ _ q)) (Nat.lt_irrefl _))
          hl hrow (by rw [flat_len]; have := Nat.mul_le_mul_right cs.length (show i + 1 ≤ n + 1 by omega); rw [Nat.succ_mul] at this; omega)
          (fun c h tk mm a t1 t2 t3 E' hc hav hk hn' hm1 hm2 ha => helt i c _ h tk mm a t1 t2 t3 t' E' hlt hc hav hk hn' (by omega) hm1 hm2 ha)
          (fun b o e => Heap.get?_push_of_some _ (kH2 b o e)) ⟨_, Heap.get?_push_size _ rfl, rfl, rfl⟩ (hn2.push _) (by simp) (Heap.get?_push_of_some _ d2)
          (hR.keeps fun b o r hc hd e => Heap.get?_push_of_some _ (k2 b o (tupN b o r hc hd e).1 (tupN b o r hc hd e).2 e)) hW (Heap.get?_push_of_some _ i2)
          (fun h' tk' ys' mm' kh' hn' hD' hR' hW' hI' => ⟨n - (i + 1), by omega, h', tk', i + 1, ys', mm', rfl, hlt, rfl, kh', hI', hn', hD', hR', hW', hn'.lt⟩)
      exact start1 (go _) (wpAny_pyIter_listiter ⟨_, Heap.get?_push_size _ rfl, rfl, rfl⟩ (go _))
    · obtain rfl : i = n := Nat.le_antisymm hi (Nat.not_lt.mp hlt)
      refine W.done _ _ _ hit fun h1 tk1 hk1 => ?_
      have k1 : ∀ b o, b ≠ s₁.heap.objs.size → h.get? b = some o → h1.get? b = some o := fun b o hb e => hk1 b o (fun q => hb (List.mem_singleton.mp q)) e
      refine ⟨mm, hnn.at' (fun o e => k1 _ o hCI e), fun h2 hs2 => ?_⟩
      have k2 : ∀ b o, b ≠ s₁.heap.objs.size → b ≠ H2.objs.size → h.get? b = some o → h2.get? b = some o := fun b o hb hc e => hs2.extBut b o hc (k1 b o hb e)
      refine fin _ h2 tk1 ys (fun b o e => k2 b o (fun q => by rw [q, nI] at e; cases e) (fun q => by rw [q, nC] at e; cases e) (kh b o e)) nD (k2 _ _ hDI (Ne.symm hCD) hD) (hR.keeps fun b o r hc hd e => k2 b o (fun q => ?_) (fun q => ?_) e) hW
      · rw [q, hit'] at e; cases e; simp at hc
      · obtain ⟨o', es, ep, e', d', _⟩ := hnn
        rw [← q, e] at e'; cases e'; rw [hd] at d'; cases d'
  exact codeAny_compStart_list (loop _ rfl) (W.self 0 _ _ _ hst₁ (loop _ rfl))
end
end Mine

end
section
open PySem PySem.W PyProof.Rows PySem.Calls
set_option maxRecDepth 100000
set_option maxHeartbeats 8000000
namespace Mine
section
theorem ints_get {vs : List Value} {ns : List Int} (h : IntsAre vs ns) : ∀ (i : Nat) (v : Value), vs[i]? = some v → ∃ t, v = .int (ns.getD i 0) t := by
  induction h with
  | nil => intro i v e; simp at e
  | cons n t h ih =>
    intro i v e
    cases i with
    | zero => simp at e; exact ⟨t, by rw [← e]; rfl⟩
    | succ i => simp at e; obtain ⟨u, hu⟩ := ih i v e; exact ⟨u, by rw [hu]; rfl⟩
theorem ints_len {vs : List Value} {ns : List Int} (h : IntsAre vs ns) : vs.length = ns.length := by
  induction h with
  | nil => rfl
  | cons n t h ih => simp [ih]
theorem ints_snoc {vs : List Value} {ns : List Int} (h : IntsAre vs ns) (n : Int) (t : Tok) : IntsAre (vs ++ [.int n t]) (ns ++ [n]) := by
  induction h with
  | nil => exact .cons n t .nil
  | cons m u h ih => exact .cons m u ih
theorem ints_of_all : ∀ (vs : List Value), (∀ v ∈ vs, ∃ n t, v = Value.int n t) → ∃ ns, IntsAre vs ns
  | [], _ => ⟨[], .nil⟩
  | v :: vs, h => by
    obtain ⟨n, t, rfl⟩ := h v (.head _)
    obtain ⟨ns, hn⟩ := ints_of_all vs fun v hv => h v (.tail _ hv)
    exact ⟨n :: ns, .cons n t hn⟩
theorem ints_all {vs : List Value} {ns : List Int} (h : IntsAre vs ns) : ∀ v ∈ vs, ∃ n t, v = Value.int n t := by
  induction h with
  | nil => intro v hv; cases hv
  | cons m u h ih =>
    intro v hv
    rcases List.mem_cons.mp hv with rfl | hv
    · exact ⟨_, _, rfl⟩
    · exact ih v hv
theorem pick_mem {xs : Array Value} {a b c : Option Int} {v : Value} (h : v ∈ (slicePick xs a b c).toList) : v ∈ xs.toList := by
  unfold slicePick at h
  simp only [List.mem_filterMap] at h
  obtain ⟨i, _, e⟩ := h
  exact Array.mem_toList_iff.mpr (Array.mem_of_getElem? e)
theorem ints_pick {vs : List Value} {ns : List Int} (h : IntsAre vs ns) (a b c : Option Int) : ∃ zs, IntsAre (slicePick vs.toArray a b c).toList zs :=
  ints_of_all _ fun v hv => ints_all h v (pick_mem hv)
theorem presum_ints (ns : List Int) : ∀ j, j ≤ ns.length → preSum (fun i => ns.getD i 0) j = (ns.take j).sum
  | 0, _ => by simp [preSum]
  | j + 1, h => by
    rw [preSum, presum_ints ns j (Nat.le_of_lt h), List.take_succ_eq_append_getElem h, List.sum_append, List.getD_eq_getElem?_getD, List.getElem?_eq_getElem h]
    simp
end
section
variable {prog : Program} {w : World} {A : Around} {E : Value → Shared → Prop} {s : Shared} {h₀ : Heap} {L : Addr} {m : Str → Option Value}
/-- the sum of a list of ints -/
theorem sum_lst {l : Addr} {vs : List Value} {ns : List Int} {Q : Value → Shared → Prop} (hh : A.handled = none) (hl : s.heap.IsList l vs.toArray) (hi : IntsAre vs ns)
    (h : ∀ h' tk t, (∀ b o, s.heap.get? b = some o → h'.get? b = some o) → Q (.int ns.sum t) { s with heap := h', toks := tk }) :
    wpAny (model prog w) A (PySem.call (.builtin "sum") [.ref l]) Q E s := by
  have hlt : l < s.heap.objs.size := by obtain ⟨_, e, _⟩ := hl; exact Heap.lt_size e
  refine call_sum_walkG (wpAny_pyIter_list hl ?_)
  refine ⟨s.heap.objs.size, _, _, _, _, _, fun i => ns.getD i 0, rfl, Walks.list (prog := prog) (w := w) (A := A.in1) hh s.heap.objs.size l (Nat.ne_of_lt hlt) vs.toArray, ⟨⟨_, Heap.get?_push_size _ rfl, rfl, rfl⟩, hl.push _⟩, fun b hb => ?_, fun i v e => ?_, fun h' tk t' hk => ?_⟩
  · show b < (s.heap.push _).objs.size
    rw [Heap.size_push]
    rcases List.mem_cons.mp hb with rfl | hb
    · exact Nat.lt_succ_self _
    · rw [List.mem_singleton.mp hb]; exact Nat.lt_succ_of_lt hlt
  · exact ints_get hi i v (by rw [← e]; simp)
  · have e : preSum (fun i => ns.getD i 0) vs.toArray.size = ns.sum := by
      rw [List.size_toArray, ints_len hi, presum_ints ns _ (Nat.le_refl _), List.take_length]
    rw [e]
    exact h h' tk t' fun b o e => hk b o (fun hm => absurd (Heap.lt_size e) ((List.mem_singleton.mp hm) ▸ Nat.lt_irrefl _)) (Heap.get?_push_of_some _ e)
/-- a turn of a comprehension that leaves the ledger as it was -/
noncomputable def TurnC (h₀ : Heap) (L : Addr) (m : Str → Option Value) (s : Shared) (I : Addr) (oI : Obj) (C : Addr) (oC : Obj) (D : Addr) (ys : List Value) (news : List (Addr × Obj)) (J : List Value → Prop) (y : Value) (s₂ : Shared) : Prop :=
  ∃ h' tk, s₂ = { s with heap := h', toks := tk } ∧ Fr h₀ L h' m ∧ News h₀ L h' ((I, oI) :: (C, oC) :: (D, LCg.lst ys) :: news) ∧ J (ys ++ [y])
theorem TurnC.intro {I C D : Addr} {oI oC : Obj} {ys : List Value} {news all : List (Addr × Obj)} {J : List Value → Prop} {y : Value} {h' : Heap} {tk : Nat} (F : Fr h₀ L h' m) (N : News h₀ L h' all) (sub : ∀ p ∈ (I, oI) :: (C, oC) :: (D, LCg.lst ys) :: news, p ∈ all) (hJ : J (ys ++ [y])) :
    TurnC h₀ L m s I oI C oC D ys news J y { s with heap := h', toks := tk } := ⟨h', tk, rfl, F, fun p hp => N p (sub p hp), hJ⟩
theorem compRest_same {env : Env} {elt : Expr} {x : Str} {scope : Scope} {cl : List (Str × Addr)} {S : List (Addr × Obj) → Prop} {P : Nat → Value → Prop} {Fin : List Value → List (Addr × Obj) → Prop} {news : List (Addr × Obj)}
    (J : Nat → List Value → Prop) (n : Nat) (hS : S news) (fin : ∀ ys, J n ys → Fin ys news)
    (step : ∀ i ys v I oI C oC D m₂ h tk (E' : Value → Shared → Prop), i < n → J i ys → P i v → LCg.NsObj oC m₂ → m₂ x = some v → Fr h₀ L h m → News h₀ L h ((I, oI) :: (C, oC) :: (D, LCg.lst ys) :: news) → LCg.Off3 I C D news → ((@Ne Nat I C) ∧ (@Ne Nat I D) ∧ (@Ne Nat C D)) →
      wpAny (model prog w) A (eval elt (compEnvC scope cl C env)) (TurnC h₀ L m s I oI C oC D ys news (J (i + 1))) E' { s with heap := h, toks := tk }) :
    ∀ k i ys, i + k = n → J i ys → LCg.CompRest prog w A h₀ L m env elt x scope cl s S P Fin k i ys news
  | 0, i, ys, e, hJ => LCg.CompRest.zero (fin ys (by rw [← e]; exact hJ))
  | k + 1, i, ys, e, hJ => LCg.CompRest.succ fun v I oI C oC D m₂ h tk E' hP hC hm F N off ne => by
    refine wpAny_mono (step i ys v I oI C oC D m₂ h tk E' (by omega) hJ hP hC hm F N off ne) (fun y s₂ hT => ?_) fun _ _ q => q
    obtain ⟨h', tk', rfl, F', N', hJ'⟩ := hT
    exact ⟨h', tk', news, rfl, F', N', off, hS, compRest_same J n hS fin step k (i + 1) (ys ++ [y]) (by omega) hJ'⟩
end
end Mine

end
section
open PySem PySem.W PyProof.Rows PySem.Calls
set_option maxRecDepth 100000
set_option maxHeartbeats 8000000
namespace Mine
/-- a row of colours: tuples of floats, none of them old -/
noncomputable def RowG (g h : Heap) (zs : List Value) (cs : List Col) : Prop := RowAt h zs cs ∧ NewAll g zs
noncomputable def RowIn (rest : List (Addr × Obj)) (zs : List Value) (cs : List Col) : Prop := zs.length = cs.length ∧ ∀ (j : Nat) (c : Col), cs[j]? = some c → ∃ (a : Addr) (t1 t2 t3 : Tok), zs[j]? = some (Value.ref a) ∧ (a, tup3 c.1 c.2.1 c.2.2 t1 t2 t3) ∈ rest
noncomputable def AllSeq (rest : List (Addr × Obj)) : Prop := ∀ p ∈ rest, p.2.cls = .type "tuple" ∧ ∃ r, p.2.data = .seq r 0
theorem RowG.keeps {g h h' : Heap} {zs : List Value} {cs : List Col} (R : RowG g h zs cs) (k : ∀ b o r, o.cls = .type "tuple" → o.data = .seq r 0 → h.get? b = some o → h'.get? b = some o) : RowG g h' zs cs := ⟨R.1.keeps k, R.2⟩
theorem newAll_append {H : Heap} {ys zs : List Value} (h : NewAll H ys) (k : NewAll H zs) : NewAll H (ys ++ zs) := fun v hv => by
  rcases List.mem_append.mp hv with hv | hv
  · exact h v hv
  · exact k v hv
theorem newAll_sub {g H : Heap} {ys : List Value} (k : ∀ b o, g.get? b = some o → H.get? b = some o) (h : NewAll H ys) : NewAll g ys := fun v hv => let ⟨a, e, n⟩ := h v hv; ⟨a, e, none_of k n⟩
theorem RowG.append {g h : Heap} {ys zs : List Value} {cs ds : List Col} (p : RowG g h ys cs) (q : RowG g h zs ds) : RowG g h (ys ++ zs) (cs ++ ds) := ⟨p.1.append q.1, newAll_append p.2 q.2⟩
noncomputable def restOf (h : Heap) (zs : List Value) : List (Addr × Obj) := zs.filterMap fun v => match v with | .ref a => (h.get? a).map fun o => (a, o) | _ => none
theorem row_rest {g h : Heap} {L : Addr} {mm : Str → Option Value} {zs : List Value} {cs : List Col} (R : RowG g h zs cs) (n : h.Ns L mm) : ∃ rest, News g L h rest ∧ RowIn rest zs cs ∧ AllSeq rest := by
  have all : ∀ p ∈ restOf h zs, ∃ (c : Col) (t1 t2 t3 : Tok), p.2 = tup3 c.1 c.2.1 c.2.2 t1 t2 t3 ∧ h.get? p.1 = some p.2 ∧ g.get? p.1 = none := by
    intro p hp
    unfold restOf at hp
    rw [List.mem_filterMap] at hp
    obtain ⟨v, hv, e⟩ := hp
    obtain ⟨a, rfl, hn⟩ := R.2 v hv
    obtain ⟨j, hj, ej⟩ := List.mem_iff_getElem.mp hv
    have hj' : j < cs.length := by rw [← R.1.1]; exact hj
    obtain ⟨a', t1, t2, t3, e1, e2⟩ := R.1.2 j cs[j] (List.getElem?_eq_getElem hj')
    rw [List.getElem?_eq_getElem hj, ej] at e1
    obtain rfl : a = a' := by injection e1 with e1; injection e1
    dsimp only at e
    rw [e2] at e
    dsimp only [Option.map] at e
    injection e with e
    rw [← e]
    exact ⟨_, _, _, _, rfl, e2, hn⟩
  refine ⟨restOf h zs, fun p hp => ?_, ⟨R.1.1, fun j c e => ?_⟩, fun p hp => ?_⟩
  · obtain ⟨c, t1, t2, t3, e, e1, e2⟩ := all p hp
    refine ⟨e1, fun q => ?_, e2⟩
    obtain ⟨o, es, ep, h1, h2, _⟩ := n
    rw [← q, e1] at h1
    injection h1 with h1
    rw [← h1, e] at h2
    cases h2
  · obtain ⟨a, t1, t2, t3, e1, e2⟩ := R.1.2 j c e
    refine ⟨a, t1, t2, t3, e1, ?_⟩
    unfold restOf
    rw [List.mem_filterMap]
    exact ⟨.ref a, List.mem_of_getElem? e1, by dsimp only; rw [e2]; rfl⟩
  · obtain ⟨c, t1, t2, t3, e, _⟩ := all p hp
    rw [e]; exact ⟨rfl, _, rfl⟩
theorem row_of {g h : Heap} {L : Addr} {zs : List Value} {cs : List Col} {rest : List (Addr × Obj)} (N : News g L h rest) (R : RowIn rest zs cs) : RowG g h zs cs := by
  refine ⟨⟨R.1, fun j c e => ?_⟩, fun v hv => ?_⟩
  · obtain ⟨a, t1, t2, t3, e1, e2⟩ := R.2 j c e
    exact ⟨a, t1, t2, t3, e1, (N _ e2).1⟩
  · obtain ⟨j, hj, ej⟩ := List.mem_iff_getElem.mp hv
    have hj' : j < cs.length := by rw [← R.1]; exact hj
    obtain ⟨a, t1, t2, t3, e1, e2⟩ := R.2 j cs[j] (List.getElem?_eq_getElem hj')
    rw [List.getElem?_eq_getElem hj, ej] at e1
    injection e1 with e1
    exact ⟨a, e1, (N _ e2).2.2⟩
/-- what is no tuple lies off the row -/
theorem off_rest {g h : Heap} {L a : Addr} {rest : List (Addr × Obj)} {o : Obj} (N : News g L h rest) (S : AllSeq rest) (e : h.get? a = some o) (c : o.cls ≠ .type "tuple" ∨ ∀ r, o.data ≠ .seq r 0) : ∀ p ∈ rest, p.1 ≠ a := fun p hp q => by
  have e1 := (N p hp).1
  rw [q, e] at e1
  injection e1 with e1
  obtain ⟨c1, r, c2⟩ := S p hp
  rw [← e1] at c1 c2
  rcases c with c | c
  · exact c c1
  · exact c r c2
theorem news_app {g h : Heap} {L : Addr} {l l' : List (Addr × Obj)} (N : News g L h l) (N' : News g L h l') : News g L h (l ++ l') := fun p hp => by
  rcases List.mem_append.mp hp with hp | hp
  · exact N p hp
  · exact N' p hp
theorem news_cons {g h : Heap} {L : Addr} {p : Addr × Obj} {l : List (Addr × Obj)} (e : h.get? p.1 = some p.2 ∧ p.1 ≠ L ∧ g.get? p.1 = none) (N : News g L h l) : News g L h (p :: l) := fun r hr => by
  rcases List.mem_cons.mp hr with rfl | hr
  · exact e
  · exact N r hr
theorem news_mem {g h : Heap} {L : Addr} {l l' : List (Addr × Obj)} (N : News g L h l) (s : ∀ p ∈ l', p ∈ l) : News g L h l' := fun p hp => N p (s p hp)
/-- the heap behind a loop's own iterator -/
theorem fr_iter {g h h' : Heap} {L I : Addr} {m : Str → Option Value} (F : Fr g L h m) (k : ∀ b o, b ≠ I → h.get? b = some o → h'.get? b = some o) (hI : L < I) : Fr g L h' m :=
  ⟨F.ns.at' fun o e => k L o (Nat.ne_of_lt hI) e, fun b o e => k b o (Nat.ne_of_lt (Nat.lt_of_lt_of_le (Heap.lt_size e) (Nat.le_trans F.above (Nat.le_of_lt hI)))) (F.keep b o e), F.above⟩
theorem news_iter {g h h' : Heap} {L I : Addr} {l : List (Addr × Obj)} (N : News g L h l) (k : ∀ b o, b ≠ I → h.get? b = some o → h'.get? b = some o) (hcl : ∀ o, h.get? I = some o → o.cls = .type "range_iterator" ∧ ∃ fs, o.data = .fields fs) (hl : ∀ p ∈ l, p.2.cls ≠ .type "range_iterator" ∨ ∀ fs, p.2.data ≠ .fields fs) : News g L h' l := fun p hp => by
  have z := N p hp
  refine ⟨k _ _ (fun q => ?_) z.1, z.2⟩
  obtain ⟨c, fs, e⟩ := hcl p.2 (q ▸ z.1)
  rcases hl p hp with w | w
  · exact w c
  · exact w fs e
/-- the rows of the law, one behind the other -/
noncomputable def col0 (b st : Nat) : Col := hlsP 0 (divP (b : Int) 4) (divP (st : Int) 2)
noncomputable def turnF (m : Nat) (i : Nat) (c : Col) : Col := turnedP c (1 + (i : Int)) (m : Int)
noncomputable def rowsP (m b st : Nat) : Nat → List Col
  | 0 => [col0 b st]
  | i + 1 => rowsP m b st i ++ flatTo (turnF m) (rowsP m b st i) (m - 1)
noncomputable def menu : List (Nat × Nat) := [(2, 3), (3, 2), (2, 4), (4, 2), (3, 3), (5, 2)]
theorem menu_n {m n : Nat} (h : (m, n) ∈ menu) : 2 ≤ n ∧ n ≤ 4 := by
  simp only [menu, List.mem_cons, Prod.mk.injEq, List.mem_nil_iff, or_false] at h
  omega
theorem menu_m {m n : Nat} (h : (m, n) ∈ menu) : 2 ≤ m ∧ m ≤ 5 := by
  simp only [menu, List.mem_cons, Prod.mk.injEq, List.mem_nil_iff, or_false] at h
  omega
noncomputable def rowsOk (m n b st : Nat) : Bool := (List.range (n + 1)).all fun i => (rowsP m b st i).length == m ^ i && (rowsP m b st i).all fun c => rgbOk c.1 c.2.1 c.2.2
theorem menu_pow {m n : Nat} (h : (m, n) ∈ menu) {i : Nat} (hi : i ≤ n) : m ^ i ≤ 27 := by
  have : ∀ mn ∈ menu, ∀ i ∈ List.range (mn.2 + 1), mn.1 ^ i ≤ 27 := by decide
  exact this (m, n) h i (List.mem_range.mpr (Nat.lt_succ_of_le hi))
end Mine

end
section
open PySem PySem.W PyProof.Rows PySem.Calls
set_option maxRecDepth 100000
set_option maxHeartbeats 8000000
namespace Mine
local macro_rules | `(tactic| walk_at $s:str) => if ["subscriptTail Name Name ref int", "setItem ref int", "setItem"].contains s.getString then `(tactic| (refine halt ?_)) else Lean.Macro.throwUnsupported
theorem c_getitem : ∀ (w : World) (p : Program) (loose : List Str) (mean : ExcName → Option Value) (mg mb : Str → Option Value) (A : Around) (s : Shared) (Q : Value → Shared → Prop) (E : Value → Shared → Prop) (h₀ : Heap) (a : Addr) (vs : List Value) (ns : List Int) (ka j : Nat) (t : Tok),
   (Mine.frag.heap_1 w.params).In h₀ → Top p loose mean mg mb h₀ → (∀ b o, h₀.get? b = some o → s.heap.get? b = some o) → h₀.get? a = none → s.heap.get? a = some (W.listOf (List.toArray vs) ka) → IntsAre vs ns → j < ns.length → j ≤ 1000 → A.handled = none → A.depth + 2 < recursionLimit → A.units + 4 * 2 < cLine →
   (∀ t h' tk', (∀ b o, s.heap.get? b = some o → h'.get? b = some o) → Q (.int (ns.getD j 0) t) {s with heap := h', toks := tk'}) →
   wpAny (model PySem.Challenge.rw_wu0023_01.row.prog w) A (PySem.call (.ref 147) [.ref a, .int (j : Int) t]) Q E s := by
  k_fill
  intro w p loose mean mg mb A s Q E h₀ a vs ns ka j t X T hk0 ha0 ha hints hj hj2 hA0 hA hu hret
  obtain ⟨hd, dp, fr, gd, un⟩ := A
  dsimp only at hA0 hA hu
  subst hA0
  refine wpAny_call ?_
  refine' enterH [a] h₀ hk0 ?hn X T ?k6 ?k7 (by dsimp only; omega) ?k9 ?kB ?_ ?c2 ?c3 ?c4 ?c5
  case hn => intro b hb; rcases List.mem_cons.mp hb with rfl | hb; exact ha0; cases hb
  case k6 => k_is
  case k7 => k_is
  case k9 => exact BindsTo.of_eq rfl
  case c5 => decide
  case kB => exact locs rfl
  case c2 => exact rfl
  case c3 => exact rfl
  case c4 => exact rfl
  intro g h₁ L' hg1 hg2 hg3 hL hk F X' T'
  dsimp only
  have haL : a ≠ L' := by rw [← hL]; exact Nat.ne_of_lt (Heap.lt_size ha)
  have N : News g L' h₁ [(a, W.listOf (List.toArray vs) ka)] := by
    intro p hp
    rcases List.mem_cons.mp hp with rfl | hp
    · exact ⟨hk _ _ ha, haL, hg3 _ (.head _)⟩
    · cases hp
  k_steps
  change wpAny _ _ _ _ _ _
  (with_reducible rename News _ _ _ _ => N2)
  refine ksa_sub N2 (.head _) hints (by omega) (by omega) (by omega) (fun t' => ?_)
  k_steps
  try dsimp only
  (with_reducible rename Fr _ _ _ _ => F'); (with_reducible rename News _ _ _ _ => N')
  rw [Int.toNat_natCast]
  exact hret _ _ _ (keeps1 F' hg2 ha (N' _ (.head _)).1)
theorem c_setitem : ∀ (w : World) (p : Program) (loose : List Str) (mean : ExcName → Option Value) (mg mb : Str → Option Value) (A : Around) (s : Shared) (Q : Value → Shared → Prop) (E : Value → Shared → Prop) (h₀ : Heap) (a : Addr) (vs : List Value) (ns : List Int) (ka j : Nat) (t : Tok) (x : Int) (u : Tok),
   (Mine.frag.heap_1 w.params).In h₀ → Top p loose mean mg mb h₀ → (∀ b o, h₀.get? b = some o → s.heap.get? b = some o) → h₀.get? a = none → s.heap.get? a = some (W.listOf (List.toArray vs) ka) → IntsAre vs ns → j < ns.length → j ≤ 1000 → A.handled = none → A.depth + 2 < recursionLimit → A.units + 4 * 2 < cLine →
   (∀ h' tk', (∀ b o, b ≠ a → s.heap.get? b = some o → h'.get? b = some o) → h'.get? a = some (W.listOf (List.toArray (vs.set j (.int x u))) ka) → IntsAre (vs.set j (.int x u)) (ns.set j x) → Q .none {s with heap := h', toks := tk'}) →
   wpAny (model PySem.Challenge.rw_wu0023_01.row.prog w) A (PySem.call (.ref 154) [.ref a, .int (j : Int) t, .int x u]) Q E s := by
  k_fill
  intro w p loose mean mg mb A s Q E h₀ a vs ns ka j t x u X T hk0 ha0 ha hints hj hj2 hA0 hA hu hret
  obtain ⟨hd, dp, fr, gd, un⟩ := A
  dsimp only at hA0 hA hu
  subst hA0
  refine wpAny_call ?_
  refine' enterH [a] h₀ hk0 ?hn X T ?k6 ?k7 (by dsimp only; omega) ?k9 ?kB ?_ ?c2 ?c3 ?c4 ?c5
  case hn => intro b hb; rcases List.mem_cons.mp hb with rfl | hb; exact ha0; cases hb
  case k6 => k_is
  case k7 => k_is
  case k9 => exact BindsTo.of_eq rfl
  case c5 => decide
  case kB => exact locs rfl
  case c2 => exact rfl
  case c3 => exact rfl
  case c4 => exact rfl
  intro g h₁ L' hg1 hg2 hg3 hL hk F X' T'
  dsimp only
  have haL : a ≠ L' := by rw [← hL]; exact Nat.ne_of_lt (Heap.lt_size ha)
  have N : News g L' h₁ [(a, W.listOf (List.toArray vs) ka)] := by
    intro p hp
    rcases List.mem_cons.mp hp with rfl | hp
    · exact ⟨hk _ _ ha, haL, hg3 _ (.head _)⟩
    · cases hp
  k_steps
  change wpAny _ _ _ _ _ _
  (with_reducible rename News _ _ _ _ => N2)
  (with_reducible rename Fr _ _ _ _ => F2)
  refine ksa_set F2 N2 (Upd.head (fun p hp => nomatch hp)) hints (by omega) (by omega) (by omega) (fun h2 F3 N3 i3 _ _ => ?_)
  rw [Int.toNat_natCast] at N3 i3
  clear F2 N2
  k_steps
  try dsimp only
  (with_reducible rename Fr _ _ _ _ => F'); (with_reducible rename News _ _ _ _ => N')
  exact hret _ _ (fun b o hb e => F'.keep b o (hg2 b o e (fun hm => hb (List.mem_singleton.mp hm)))) (N' _ (.head _)).1 i3
end Mine

end
section
open PySem PySem.W PyProof.Rows PySem.Calls PyProof.Rows.LCg
set_option maxRecDepth 100000
set_option maxHeartbeats 8000000
namespace Mine
section
variable {prog : Program} {w : World} {A : Around} {E : Value → Shared → Prop} {s : Shared} {g : Heap} {L : Addr} {mm : Str → Option Value}
/-- the walk over a range that goes down by ones -/
theorem down_walks {I : Addr} (hh : A.handled = none) (a : Int) (n : Nat) : Walks prog w A I [I] [I] n (fun i v => ∃ t, v = .int (a - (i : Int)) t) (fun i h => IsRangeIter h I (a + (i : Nat) * (-1)) ((n : Int) - (i : Nat)) (-1)) :=
  let W := Walks.range (prog := prog) (w := w) (A := A) hh I a (-1) n
  { sub := W.sub, frame := W.frame, done := W.done, self := W.self,
    item := fun i s Q E hi st hQ => W.item i s Q E hi st fun v h' tk ⟨t, e⟩ => hQ v h' tk ⟨t, by rw [e]; congr 1; omega⟩ }
noncomputable def DownSrc (prog : Program) (w : World) (A : Around) (g : Heap) (L : Addr) (mm : Str → Option Value) (env : Env) (elt : Expr) (x : Str) (scope : Scope) (cl : List (Str × Addr)) (Fin : Shared → List Value → List (Addr × Obj) → Prop) (xv : Value) (s₁ : Shared) : Prop :=
  ∃ r a b t u v n news, xv = .ref r ∧ A.handled = none ∧ Fr g L s₁.heap mm ∧ News g L s₁.heap news ∧ IsRange s₁.heap r a b (-1) t u v ∧ Builtin.Range.small a b (-1) = true ∧ Builtin.Range.rangeSize a b (-1) = ((n : Nat) : Int) ∧ n ≤ sizeLine ∧
    ∀ s₂ : Shared, (∃ h, s₂ = { s₁ with heap := h }) → CompRest prog w A g L mm env elt x scope cl s₂ (fun _ => True) (fun i v => ∃ t, v = .int (a - (i : Int)) t) (Fin s₂) n 0 [] news
theorem DownSrc.mk {env : Env} {elt : Expr} {x : Str} {scope : Scope} {cl : List (Str × Addr)} {Fin : Shared → List Value → List (Addr × Obj) → Prop} {r : Addr} {a b : Int} {t u v : Tok} {n : Nat} {news : List (Addr × Obj)} {s₁ : Shared}
    (hh : A.handled = none) (F : Fr g L s₁.heap mm) (N : News g L s₁.heap news) (hr : IsRange s₁.heap r a b (-1) t u v) (hsm : Builtin.Range.small a b (-1) = true) (hn : Builtin.Range.rangeSize a b (-1) = ((n : Nat) : Int)) (hsz : n ≤ sizeLine)
    (h : ∀ g', CompRest prog w A g L mm env elt x scope cl { s₁ with heap := g' } (fun _ => True) (fun i v => ∃ t, v = .int (a - (i : Int)) t) (Fin { s₁ with heap := g' }) n 0 [] news) :
    DownSrc prog w A g L mm env elt x scope cl Fin (.ref r) s₁ := ⟨r, a, b, t, u, v, n, news, rfl, hh, F, N, hr, hsm, hn, hsz, fun _ ⟨g', e⟩ => e ▸ h g'⟩
theorem assign_down {elt iter : Expr} {x y : Str} {px py : Pos} {scope : Scope} {cl : List (Str × Addr)} {pos spos : Pos} {env : Env} {Q : Flow → Shared → Prop} (F₀ : Fr g L s.heap mm) (hLe : env.locals = L)
    (hsw : swapsWith (.ListComp elt [⟨.Name x px, iter, [], 0⟩] scope pos) (some (.Name y py)) spos.line env = pure true)
    (hclos : closureFor scope env = pure cl) (hcell : ∀ z ∈ scope.names, z.2 ≠ .cell) (hkind : scope.kind = .function)
    (hnames : ∀ z ∈ scope.names, z.2 = .local → scope.names.lookup z.1 = some .local) (hx : scope.names.lookup x = some .local)
    (hy : env.kindOf y = some .local) (hp : (env.scope.kind == .class || (env.scope.kind == .module && env.locals != env.globals)) = false)
    (h : wpAny (model prog w) A (eval iter env) (DownSrc prog w A g L mm env elt x scope cl (fun s₂ => FinA g L mm s₂ y Q)) E s)
    (hs : ∀ x, foldedSetIterable iter env x = pure x) :
    wpAny (model prog w) A (exec (.Assign [.Name y py] (.ListComp elt [⟨.Name x px, iter, [], 0⟩] scope pos) spos) env) Q E s := by
  subst hLe
  rw [exec_Assign_Name_used _ _ _ _ hsw]
  refine wpAny_bind (wpAny_standAt (wpAny_bind ?_))
  show wpAny _ A (do let _ ← comprehension (.ListComp elt [⟨.Name x px, iter, [], 0⟩] scope pos) scope env _ (newList []) false (eval iter env) (some (assign (.Name y py) env))) _ _ s
  refine wpAny_bind (wpAny_mono (wpAny_comprehension_free (use := some (assign (.Name y py) env)) (Q := fun _ s' => Q .next s') rfl hs hclos hkind hnames (wpAny_mono h (fun xv s₁ h₁ => ?_) fun _ _ e => e)) (fun _ s' hq => wpAny_pure (wpAny_pure hq)) fun _ _ e => e)
  obtain ⟨r, a, b, t, u, v, n, news, rfl, hh, F, N, hr, hsm, hn, hsz, R⟩ := h₁
  refine wpAny_pyIter_range hr hsm ?_
  have up : ∀ (o' : Obj) c o, s₁.heap.get? c = some o → (s₁.heap.push o').get? c = some o := fun o' c o e => Heap.get?_push_of_some _ e
  have same : ∀ i (h h' : Heap) (o : Obj) (nw : List (Addr × Obj)), IsRangeIter h s₁.heap.objs.size (a + (i : Nat) * (-1)) ((n : Int) - (i : Nat)) (-1) → h.get? s₁.heap.objs.size = some o → h'.get? s₁.heap.objs.size = some o → (∀ b o, g.get? b = some o → h'.get? b = some o) → News g env.locals h' nw → True → IsRangeIter h' s₁.heap.objs.size (a + (i : Nat) * (-1)) ((n : Int) - (i : Nat)) (-1) := by
    intro i h h' o nw st e e' _ _ _
    have st' : h.get? s₁.heap.objs.size = some _ := st
    rw [st'] at e
    show h'.get? s₁.heap.objs.size = some _
    rw [e', ← e]
  refine block_U (down_walks hh a n) hsz (fun i h st => ⟨_, st⟩) same hcell hkind hx ?_ ?_ (F.keeps (up _)) (N.grown (up _)) (Nat.ne_of_lt F.ns.lt) (next_is_new F) (fun p hp => Nat.ne_of_lt (Heap.lt_size (N p hp).1)) trivial (R _ ⟨_, rfl⟩) ?_
  · show IsRangeIter _ _ _ _ _
    rw [hn]
    simpa using Heap.get?_push_size _ rfl
  · intro c hc
    rw [List.mem_singleton.mp hc]
    show s₁.heap.objs.size < (s₁.heap.push _).objs.size
    rw [Heap.size_push]; exact Nat.lt_succ_self _
  · intro D C h' tk m' ys news' F' N' o1 hn' hC₀ hD₀ hCL hDL hCD offC fin
    show wpAny _ A (assign (.Name y py) env (.ref D)) _ _ _
    refine wpAny_assign_Name (wpAny_storeName_local hy F'.ns (fun h₂ hn₂ hs₂ => ?_) hp)
    have F₂ : Fr g env.locals h₂ (fun z => if z = y then some (.ref D) else mm z) := ⟨hn₂, fun c o e => hs₂.extBut c o (fun q => by rw [q, Heap.get?_none_of_le F'.above] at e; cases e) (F'.keep c o e), F'.above⟩
    refine ⟨m', hn'.sameBut hs₂ hCL, fun h'' hs'' => fin D h'' _ (F₂.change hs'' hCL hC₀) (fun p hp => ?_) o1⟩
    refine ⟨hs''.extBut _ _ (fun q => ?_) (hs₂.extBut _ _ (N' p hp).2.1 (N' p hp).1), (N' p hp).2⟩
    rcases List.mem_cons.mp hp with rfl | hp
    · exact hCD q.symm
    · exact offC p hp q
end
end Mine

end
section
open PySem PySem.W PyProof.Rows PySem.Calls
set_option maxRecDepth 100000
set_option maxHeartbeats 8000000
namespace Mine
/-- the plain law: figures, sums, marks, the whole -/
noncomputable def digit (m k i : Nat) : Nat := i / m ^ k % m
noncomputable def blanks (d : Nat) : Str := ⟨Array.replicate d 32⟩
noncomputable def tsOf (m n i : Nat) : List (Str × Str) := (List.range n).reverse.map fun k => (blanks (digit m k i), Str.ofString "o")
noncomputable def toldP (m n i : Nat) : Nat := ((List.range n).map fun k => digit m k i).sum % m
noncomputable def valueP (fs : List Int) (i : Nat) : Int := fs.foldl (fun v f => v * (i : Int) + f) 0
noncomputable def termP (fs : List Int) (n i : Nat) : Int := ((List.range (n + 1)).map fun k => fs.getD k 0 * (i : Int) ^ (n - k)).sum
noncomputable def prodP (m n i : Nat) : Int := ((List.range n).reverse.map fun k => ((digit m k i : Nat) : Int)).foldl (fun a d => a * d) 1
noncomputable def sumsP (m n : Nat) (fs : List Int) : Nat → List Int
  | 0 => List.replicate m 0
  | i + 1 => (sumsP m n fs i).set (toldP m n i) ((sumsP m n fs i).getD (toldP m n i) 0 + valueP fs i)
noncomputable def marksP (m n : Nat) : Nat → List Int
  | 0 => List.replicate m 0
  | i + 1 => (marksP m n i).set (toldP m n i) ((marksP m n i).getD (toldP m n i) 0 + prodP m n i)
noncomputable def wholeP (fs : List Int) (n : Nat) : Nat → Int
  | 0 => 0
  | i + 1 => wholeP fs n i + termP fs n i
theorem sumsP_len (m n : Nat) (fs : List Int) : ∀ i, (sumsP m n fs i).length = m
  | 0 => by simp [sumsP]
  | i + 1 => by simp [sumsP, sumsP_len m n fs i]
theorem marksP_len (m n : Nat) : ∀ i, (marksP m n i).length = m
  | 0 => by simp [marksP]
  | i + 1 => by simp [marksP, marksP_len m n i]

theorem ts_start {m n : Nat} (h : (m, n) ∈ menu) : tsOf m n 0 = List.replicate n Mine.zero2 := by
  have : ∀ mn ∈ menu, tsOf mn.1 mn.2 0 = List.replicate mn.2 Mine.zero2 := by decide +kernel
  exact this (m, n) h
theorem ts_end {m n : Nat} (h : (m, n) ∈ menu) : tsOf m n (m ^ n) = List.replicate n Mine.zero2 := by
  have : ∀ mn ∈ menu, tsOf mn.1 mn.2 (mn.1 ^ mn.2) = List.replicate mn.2 Mine.zero2 := by decide +kernel
  exact this (m, n) h
/-- the last figure ahead, the others behind it from the last on -/
noncomputable def lastFig (m n i : Nat) : (Str × Str) × List (Str × Str) := ((tsOf m n i).getLastD none2, (tsOf m n i).dropLast.reverse)
theorem fig_all : ∀ mn ∈ menu, ∀ i ∈ List.range (mn.1 ^ mn.2), tsOf mn.1 mn.2 i = (lastFig mn.1 mn.2 i).2.reverse ++ [(lastFig mn.1 mn.2 i).1] ∧ moreP mn.1 mn.2 (lastFig mn.1 mn.2 i).1 (lastFig mn.1 mn.2 i).2 = tsOf mn.1 mn.2 (i + 1) ∧
    (i + 1 = mn.1 ^ mn.2 → (popsP mn.1 (lastFig mn.1 mn.2 i).1 (lastFig mn.1 mn.2 i).2).2.1 = none2) := by decide +kernel
theorem ts_small : ∀ mn ∈ menu, ∀ i ∈ List.range (mn.1 ^ mn.2 + 1), ∀ q ∈ tsOf mn.1 mn.2 i, q.1.length ≤ 5 ∧ q.2.length = 1 := by decide +kernel
theorem ts_sum : ∀ mn ∈ menu, ∀ i ∈ List.range (mn.1 ^ mn.2), (sizeOf (tsOf mn.1 mn.2 i) - (mn.2 : Int)).fmod (mn.1 : Int) = ((toldP mn.1 mn.2 i : Nat) : Int) := by decide +kernel
theorem ts_join : ∀ mn ∈ menu, ∀ i ∈ List.range (mn.1 ^ mn.2 + 1), JoinOk Str.empty ((tsOf mn.1 mn.2 i).map fun q => Txt.join Str.empty [q.1, q.2]) = true := by decide +kernel
end Mine

end
section
open PySem PySem.W PyProof.Rows PySem.Calls
set_option maxRecDepth 100000
set_option maxHeartbeats 8000000
set_option pp.deepTerms false
set_option pp.maxSteps 6000
set_option pp.proofs false
set_option linter.unusedVariables false
namespace Mine
theorem seven_pop {ys : List Value} {n : Nat} (h : ys.length = n + 1) (hy : ∀ v ∈ ys, ∃ k t, v = Value.int k t) : ∃ k t zs, ys = .int k t :: zs ∧ zs.length = n ∧ ∀ v ∈ zs, ∃ k t, v = Value.int k t := by
  cases ys with
  | nil => cases h
  | cons v zs =>
    obtain ⟨k, t, rfl⟩ := hy v (.head _)
    exact ⟨k, t, zs, rfl, by simpa using h, fun v hv => hy v (.tail _ hv)⟩
theorem seven {ys : List Value} (h : ys.length = 7) (hy : ∀ v ∈ ys, ∃ n t, v = Value.int n t) : ∃ z0 z1 z2 z3 z4 z5 z6 t0 t1 t2 t3 t4 t5 t6, ys = [.int z0 t0, .int z1 t1, .int z2 t2, .int z3 t3, .int z4 t4, .int z5 t5, .int z6 t6] := by
  obtain ⟨z0, t0, ys, rfl, h, hy⟩ := seven_pop h hy
  obtain ⟨z1, t1, ys, rfl, h, hy⟩ := seven_pop h hy
  obtain ⟨z2, t2, ys, rfl, h, hy⟩ := seven_pop h hy
  obtain ⟨z3, t3, ys, rfl, h, hy⟩ := seven_pop h hy
  obtain ⟨z4, t4, ys, rfl, h, hy⟩ := seven_pop h hy
  obtain ⟨z5, t5, ys, rfl, h, hy⟩ := seven_pop h hy
  obtain ⟨z6, t6, ys, rfl, h, hy⟩ := seven_pop h hy
  obtain rfl := List.eq_nil_of_length_eq_zero h
  exact ⟨_, _, _, _, _, _, _, _, _, _, _, _, _, _, rfl⟩
theorem fr_abs {g h : Heap} {L : Addr} {m : Str → Option Value} {x : Str} {v : Value} (F : Fr g L h m) (e : m x = some v) : ∃ mm, Fr g L h mm ∧ mm x = some v := ⟨m, F, e⟩
theorem cell_abs {o : Obj} {c : Option Value} (d : o.data = .cell c) : ∃ c, o.data = .cell c := ⟨c, d⟩
theorem news_sub {g h : Heap} {L : Addr} {l l' : List (Addr × Obj)} (N : News g L h l) (s : l'.Sublist l) : News g L h l' := fun p hp => N p (s.subset hp)
end Mine
end
section
open PySem PySem.W PyProof.Rows PySem.Calls
set_option maxRecDepth 100000
set_option maxHeartbeats 8000000
set_option pp.deepTerms false
set_option pp.maxSteps 3000
set_option pp.proofs false
set_option linter.unusedVariables false
namespace Mine
theorem upd_ne {m : Str → Option Value} {y x : Str} {v w : Option Value} (h : ¬ x = y) (e : m x = w) : (if x = y then v else m x) = w := by rw [if_neg h]; exact e
theorem upd_eq {m : Str → Option Value} {y x : Str} {v : Option Value} (h : x = y) : (if x = y then v else m x) = v := if_pos h

noncomputable def MenuSt (s : Shared) (g : Heap) (L D a7 a6 a5 a4 a3 : Addr) (oD o7 o6 o5 : Obj) (p q : Addr × Obj) (fl : Flow) (s' : Shared) : Prop :=
  ∃ h tk mm o4 o3 m n t3 t4, s' = { s with heap := h, toks := tk } ∧ fl = .next ∧ (m, n) ∈ menu ∧ Fr g L h mm ∧ mm (Str.ofString "drawn") = some (.ref D) ∧ o3.data = .cell (some (.int ((m : Nat) : Int) t3)) ∧ o4.data = .cell (some (.int ((n : Nat) : Int) t4)) ∧
    News g L h [(D, oD), (a7, o7), (a6, o6), (a5, o5), (a4, o4), (a3, o3), p, q]
theorem MenuSt.mk {s : Shared} {g h : Heap} {L D a7 a6 a5 a4 a3 : Addr} {oD o7 o6 o5 o4 o3 : Obj} {p q : Addr × Obj} {tk : Nat} {mm : Str → Option Value} {t3 t4 : Tok} {all : List (Addr × Obj)} (m n : Nat)
    (F : Fr g L h mm) (N : News g L h all) (d3 : o3.data = .cell (some (.int ((m : Nat) : Int) t3))) (d4 : o4.data = .cell (some (.int ((n : Nat) : Int) t4))) (hmn : (m, n) ∈ menu) (em : mm (Str.ofString "drawn") = some (.ref D)) (sub : ∀ r ∈ [(D, oD), (a7, o7), (a6, o6), (a5, o5), (a4, o4), (a3, o3), p, q], r ∈ all) :
    MenuSt s g L D a7 a6 a5 a4 a3 oD o7 o6 o5 p q .next { s with heap := h, toks := tk } := ⟨h, tk, mm, o4, o3, m, n, t3, t4, rfl, rfl, hmn, F, em, d3, d4, fun r hr => N r (sub r hr)⟩
theorem menu_cut {M : Model} {A : Around} {E : Value → Shared → Prop} {t : Sem Flow} {Q : Flow → Shared → Prop} {s : Shared} {g : Heap} {L D a7 a6 a5 a4 a3 : Addr} {oD o7 o6 o5 o4 o3 : Obj} {p q : Addr × Obj} (N : News g L s.heap [(D, oD), (a7, o7), (a6, o6), (a5, o5), (a4, o4), (a3, o3), p, q])
    (h : wpAny M A t (MenuSt s g L D a7 a6 a5 a4 a3 oD o7 o6 o5 p q) E s) (k : ∀ fl s', MenuSt s g L D a7 a6 a5 a4 a3 oD o7 o6 o5 p q fl s' → Q fl s') : wpAny M A t Q E s := wpAny_mono h k fun _ _ x => x
end Mine
end
section
open PySem PySem.W PyProof.Rows PySem.Calls
set_option maxRecDepth 100000
set_option maxHeartbeats 8000000
set_option pp.deepTerms false
set_option pp.maxSteps 3000
set_option pp.proofs false
set_option linter.unusedVariables false
namespace Mine
theorem fmod_2001 (x : Int) : -1000 ≤ x.fmod 2001 - 1000 ∧ x.fmod 2001 - 1000 ≤ 1000 := by
  rw [Int.fmod_eq_emod_of_nonneg x (by decide)]
  omega
theorem K_hls {w p loose mean mg mb A s Q E h l sa t1 t2 t3} : type_of% (c_hls w p loose mean mg mb A s Q E h l sa t1 t2 t3) := c_hls w p loose mean mg mb A s Q E h l sa t1 t2 t3
theorem nat_of {z k : Int} (h : 1 ≤ z) (h2 : z ≤ k) : ∃ b : Nat, z = (b : Int) ∧ 1 ≤ b ∧ (b : Int) ≤ k := ⟨z.toNat, by omega, by omega, by omega⟩
theorem fr_abs3 {g h : Heap} {L : Addr} {m : Str → Option Value} {x1 x2 x3 : Str} {v1 v2 v3 : Int} {t1 t2 t3 : Tok} (F : Fr g L h m) (e1 : m x1 = some (.int v1 t1)) (e2 : m x2 = some (.int v2 t2)) (e3 : m x3 = some (.int v3 t3)) : ∃ mm t1 t2 t3, Fr g L h mm ∧ mm x1 = some (.int v1 t1) ∧ mm x2 = some (.int v2 t2) ∧ mm x3 = some (.int v3 t3) := ⟨m, _, _, _, F, e1, e2, e3⟩
theorem off1_of {a : Addr} : ∀ {l : List (Addr × Obj)}, OffN a l → LCg.Off1 a l
  | [], _ => trivial
  | p :: _, h => ⟨Ne.symm (h p (.head _)), off1_of fun q hq => h q (.tail _ hq)⟩
theorem fmod_3 (x : Int) : 0 ≤ x.fmod 3 ∧ x.fmod 3 < 3 := by
  rw [Int.fmod_eq_emod_of_nonneg x (by decide)]
  omega
theorem fmod_2 (x : Int) : 0 ≤ x.fmod 2 ∧ x.fmod 2 < 2 := by
  rw [Int.fmod_eq_emod_of_nonneg x (by decide)]
  omega
end Mine
end
section
open PySem PySem.W PyProof.Rows PySem.Calls
set_option maxRecDepth 100000
set_option maxHeartbeats 8000000
set_option pp.deepTerms false
set_option pp.maxSteps 3000
set_option pp.proofs false
set_option linter.unusedVariables false
namespace Mine
noncomputable def RI (s : Shared) (g : Heap) (L a6 : Addr) (news : List (Addr × Obj)) (m b st : Nat) (p : Int) (tb ts tp : Tok) (i : Nat) (s' : Shared) : Prop :=
  ∃ h tk mm o6 l zs k, s' = { s with heap := h, toks := tk } ∧ Fr g L h mm ∧ mm (Str.ofString "bright") = some (.int (b : Int) tb) ∧ mm (Str.ofString "strong") = some (.int (st : Int) ts) ∧ mm (Str.ofString "part") = some (.int p tp) ∧ o6.data = .cell (some (.ref l)) ∧
    LCg.Off1 l ((a6, o6) :: news) ∧ News g L h ((l, W.listOf (List.toArray zs) k) :: (a6, o6) :: news) ∧ RowG g h zs (rowsP m b st i)
theorem RI.mk {s : Shared} {g h : Heap} {L a6 l : Addr} {o6 : Obj} {news all : List (Addr × Obj)} {m b st k tk : Nat} {p : Int} {tb ts tp : Tok} {i : Nat} {mm : Str → Option Value} {zs : List Value}
    (F : Fr g L h mm) (N : News g L h all) (eb : mm (Str.ofString "bright") = some (.int (b : Int) tb)) (es : mm (Str.ofString "strong") = some (.int (st : Int) ts)) (ep : mm (Str.ofString "part") = some (.int p tp)) (d6 : o6.data = .cell (some (.ref l)))
    (off : LCg.Off1 l ((a6, o6) :: news)) (sub : ∀ r ∈ (l, W.listOf (List.toArray zs) k) :: (a6, o6) :: news, r ∈ all) (R : RowG g h zs (rowsP m b st i)) : RI s g L a6 news m b st p tb ts tp i { s with heap := h, toks := tk } :=
  ⟨h, tk, mm, o6, l, zs, k, rfl, F, eb, es, ep, d6, off, fun r hr => N r (sub r hr), R⟩
theorem tup_rowG {g h : Heap} {a : Addr} {c : Col} {t1 t2 t3 : Tok} (e : h.get? a = some (tup3 c.1 c.2.1 c.2.2 t1 t2 t3)) (n : g.get? a = none) : RowG g h [.ref a] [c] := by
  refine ⟨⟨rfl, fun j r er => ?_⟩, fun v hv => ⟨a, List.mem_singleton.mp hv, n⟩⟩
  cases j with
  | zero => simp at er; subst er; exact ⟨a, t1, t2, t3, rfl, e⟩
  | succ j => simp at er
theorem cell_nf {o : Obj} {c : Option Value} (d : o.data = .cell c) : o.cls ≠ .type "range_iterator" ∨ ∀ fs, o.data ≠ .fields fs := .inr fun fs w => by rw [d] at w; cases w
theorem data_ne {h h' : Heap} {I b : Addr} {o : Obj} (k : ∀ b o, b ≠ I → h.get? b = some o → h'.get? b = some o) (hcl : ∀ o, h.get? I = some o → o.cls = .type "range_iterator" ∧ ∃ fs, o.data = .fields fs) (d : ∀ fs, o.data ≠ .fields fs) (e : h.get? b = some o) : h'.get? b = some o :=
  k b o (fun q => by obtain ⟨_, fs, w⟩ := hcl o (q ▸ e); exact d fs w) e
theorem rows_for {prog : Program} {w : World} {A : Around} {s : Shared} {E : Value → Shared → Prop} {R : Result → Shared → Prop} {target : Expr} {body orelse : List Stmt} {env : Env} {r : Addr} {cnt : Nat} {t u v : Tok}
    {g : Heap} {L a6 l : Addr} {o6 : Obj} {news : List (Addr × Obj)} {m b st k : Nat} {p : Int} {tb ts tp : Tok} {mm : Str → Option Value} {zs : List Value} (hh : A.handled = none)
    (hr : IsRange s.heap r 0 (cnt : Int) 1 t u v) (hc : cnt ≤ 1000000)
    (F : Fr g L s.heap mm) (N : News g L s.heap ((l, W.listOf (List.toArray zs) k) :: (a6, o6) :: news)) (eb : mm (Str.ofString "bright") = some (.int (b : Int) tb)) (es : mm (Str.ofString "strong") = some (.int (st : Int) ts)) (ep : mm (Str.ofString "part") = some (.int p tp)) (d6 : o6.data = .cell (some (.ref l)))
    (off : LCg.Off1 l ((a6, o6) :: news)) (R0 : RowG g s.heap zs (rowsP m b st 0)) (hnf : ∀ p ∈ news, p.2.cls ≠ .type "range_iterator" ∨ ∀ fs, p.2.data ≠ .fields fs)
    (step : ∀ I i (s' : Shared) oI t', i < cnt → RI s g L a6 news m b st p tb ts tp i s' → L < I → g.get? I = none → (∀ q ∈ (a6, o6) :: news, q.1 < I) → s'.heap.get? I = some oI → oI.cls = .type "range_iterator" → wpAny (model prog w) A (assign target env (.int (i : Int) t')) (fun _ s₂ => wpAny (model prog w) A (execs body env) (fun f s₃ => match f with
          | .next | .cont => TurnEnd (RI s g L a6 news m b st p tb ts tp) I oI i s₃
          | .brk => R (.ok .next) s₃
          | .ret v => R (.ok (.ret v)) s₃) (notedBy (model prog w) A env fun e s' => R (.error e) s') s₂) (notedBy (model prog w) A env fun e s' => R (.error e) s') s')
    (done : ∀ s', RI s g L a6 news m b st p tb ts tp cnt s' → wpAny (model prog w) A (execs orelse env) (fun f s₃ => R (.ok f) s₃) (notedBy (model prog w) A env fun e s' => R (.error e) s') s')
    (ht : ∀ it v, letOwnedTupleGo target it v = pure ()) :
    wpAny (model prog w) A (pyIter (.ref r)) (fun it s₂ => codeAny (model prog w) A (.forLoop target it body orelse env) R s₂) E s := by
  refine range_loop hh hr hc (RI s g L a6 news m b st p tb ts tp) ?_ ⟨s.heap, s.toks, mm, o6, l, zs, k, rfl, F, eb, es, ep, d6, off, N, R0⟩ (fun i s' oI t' hi hJ hI hc => step _ i s' oI t' hi hJ F.ns.lt (Heap.get?_none_of_le (Nat.le_trans F.above (Nat.le_of_lt F.ns.lt))) (fun q hq => Heap.lt_size (N q (.tail _ hq)).1) hI hc) done ht
  rintro i s' h' tk ⟨h, tk0, mm', o6', l', zs', k', rfl, F', eb', es', ep', d6', off', N', R'⟩ hcl hk
  refine ⟨h', tk, mm', o6', l', zs', k', rfl, fr_iter F' hk F.ns.lt, eb', es', ep', d6', off', news_iter N' hk hcl fun q hq => ?_, R'.keeps fun b o r _ hd e => data_ne hk hcl (fun fs w => by rw [hd] at w; cases w) e⟩
  rcases List.mem_cons.mp hq with rfl | hq
  · exact .inr fun fs w => by cases w
  · rcases List.mem_cons.mp hq with rfl | hq
    · exact .inr fun fs w => by dsimp only at w; rw [d6'] at w; cases w
    · exact hnf q hq
theorem news_retail {g h : Heap} {L : Addr} {l rest rest2 : List (Addr × Obj)} (N : News g L h (l ++ rest)) (N2 : News g L h rest2) : News g L h (l ++ rest2) := news_app (fun p hp => N p (List.mem_append_left rest hp)) N2
noncomputable def EndR (s : Shared) (g : Heap) (L : Addr) (mm : Str → Option Value) (news : List (Addr × Obj)) (a : Int) (m : Int) (xv : Value) (s₁ : Shared) : Prop := ∃ r h tk t u v, xv = .ref r ∧ s₁ = { s with heap := h, toks := tk } ∧ IsRange h r a m 1 t u v ∧ Fr g L h mm ∧ News g L h news
theorem EndR.mk {s : Shared} {g h : Heap} {L r : Addr} {mm : Str → Option Value} {news all : List (Addr × Obj)} {a m : Int} {tk : Nat} {t u v : Tok} (R : IsRange h r a m 1 t u v) (F : Fr g L h mm) (N : News g L h all) (sub : ∀ p ∈ news, p ∈ all) : EndR s g L mm news a m (.ref r) { s with heap := h, toks := tk } := ⟨r, h, tk, t, u, v, rfl, rfl, R, F, fun p hp => N p (sub p hp)⟩
theorem range_cut {M : Model} {A : Around} {E : Value → Shared → Prop} {s : Shared} {t : Sem Value} {P : Value → Shared → Prop} {g : Heap} {L : Addr} {mm : Str → Option Value} {news : List (Addr × Obj)} (a m : Int) (F : Fr g L s.heap mm) (N : News g L s.heap news)
    (h : wpAny M A t (EndR s g L mm news a m) E s) (k : ∀ xv s₁, EndR s g L mm news a m xv s₁ → P xv s₁) : wpAny M A t P E s := wpAny_mono h k fun _ _ x => x
theorem K_turned {w p loose mean mg mb A s Q E h₀ c q t1 t2 t3 k m t4 t5} : type_of% (c_turned w p loose mean mg mb A s Q E h₀ c q t1 t2 t3 k m t4 t5) := c_turned w p loose mean mg mb A s Q E h₀ c q t1 t2 t3 k m t4 t5
end Mine
end
section
open PySem PySem.W PyProof.Rows PySem.Calls
set_option maxRecDepth 100000
set_option maxHeartbeats 8000000
set_option pp.deepTerms false
set_option pp.maxSteps 3000
set_option pp.proofs false
set_option linter.unusedVariables false
namespace Mine
theorem K_make {w p loose mean mg mb A s Q E} : type_of% (c_make w p loose mean mg mb A s Q E) := c_make w p loose mean mg mb A s Q E
theorem K_pushP {w p loose mean mg mb A s Q E h₀ x dx ts a b t1 t2} : type_of% (c_pushP w p loose mean mg mb A s Q E h₀ x dx ts a b t1 t2) := c_pushP w p loose mean mg mb A s Q E h₀ x dx ts a b t1 t2
/-- what the frame of the law holds all along -/
noncomputable def Core (mm : Str → Option Value) (b st : Nat) (p : Int) (tb ts tp : Tok) (x : Addr) : Prop := mm (Str.ofString "bright") = some (.int (b : Int) tb) ∧ mm (Str.ofString "strong") = some (.int (st : Int) ts) ∧ mm (Str.ofString "part") = some (.int p tp) ∧ mm (Str.ofString "pile") = some (.ref x)
noncomputable def PI (s : Shared) (g : Heap) (L x dx : Addr) (news : List (Addr × Obj)) (b st : Nat) (p : Int) (tb ts tp : Tok) (i : Nat) (s' : Shared) : Prop :=
  ∃ h tk mm, s' = { s with heap := h, toks := tk } ∧ Fr g L h mm ∧ Core mm b st p tb ts tp x ∧ News g L h news ∧ PileAt h x dx (List.replicate i zero2)
theorem pile_iter {h h' : Heap} {I x dx : Addr} {ts : List (Str × Str)} (P : PileAt h x dx ts) (k : ∀ b o, b ≠ I → h.get? b = some o → h'.get? b = some o) (hcl : ∀ o, h.get? I = some o → o.cls = .type "range_iterator" ∧ ∃ fs, o.data = .fields fs) : PileAt h' x dx ts := by
  obtain ⟨vs, ep, hs, tk, t, a1, a2, a3⟩ := P
  exact ⟨vs, ep, hs, tk, t, data_ne k hcl (by intro fs w; cases w) a1, data_ne k hcl (by intro fs w; cases w) a2, a3.keeps fun b o c e => k b o (fun q => by obtain ⟨w, _⟩ := hcl o (q ▸ e); rw [w] at c; injection c with c; exact absurd c (by decide)) e⟩
theorem push_for {prog : Program} {w : World} {A : Around} {s : Shared} {E : Value → Shared → Prop} {R : Result → Shared → Prop} {target : Expr} {body orelse : List Stmt} {env : Env} {r : Addr} {cnt : Nat} {t u v : Tok}
    {g : Heap} {L x dx : Addr} {news : List (Addr × Obj)} {b st : Nat} {p : Int} {tb ts tp : Tok} {mm : Str → Option Value} (hh : A.handled = none)
    (hr : IsRange s.heap r 0 (cnt : Int) 1 t u v) (hc : cnt ≤ 1000000) (F : Fr g L s.heap mm) (N : News g L s.heap news) (C : Core mm b st p tb ts tp x) (P : PileAt s.heap x dx [])
    (hnf : ∀ p ∈ news, p.2.cls ≠ .type "range_iterator" ∨ ∀ fs, p.2.data ≠ .fields fs)
    (step : ∀ I i (s' : Shared) oI t', i < cnt → PI s g L x dx news b st p tb ts tp i s' → L < I → g.get? I = none → s'.heap.get? I = some oI → oI.cls = .type "range_iterator" → wpAny (model prog w) A (assign target env (.int (i : Int) t')) (fun _ s₂ => wpAny (model prog w) A (execs body env) (fun f s₃ => match f with
          | .next | .cont => TurnEnd (PI s g L x dx news b st p tb ts tp) I oI i s₃
          | .brk => R (.ok .next) s₃
          | .ret v => R (.ok (.ret v)) s₃) (notedBy (model prog w) A env fun e s' => R (.error e) s') s₂) (notedBy (model prog w) A env fun e s' => R (.error e) s') s')
    (done : ∀ s', PI s g L x dx news b st p tb ts tp cnt s' → wpAny (model prog w) A (execs orelse env) (fun f s₃ => R (.ok f) s₃) (notedBy (model prog w) A env fun e s' => R (.error e) s') s')
    (ht : ∀ it v, letOwnedTupleGo target it v = pure ()) :
    wpAny (model prog w) A (pyIter (.ref r)) (fun it s₂ => codeAny (model prog w) A (.forLoop target it body orelse env) R s₂) E s := by
  refine range_loop hh hr hc (PI s g L x dx news b st p tb ts tp) ?_ ⟨s.heap, s.toks, mm, rfl, F, C, N, P⟩ (fun i s' oI t' hi hJ hI hc => step _ i s' oI t' hi hJ F.ns.lt (Heap.get?_none_of_le (Nat.le_trans F.above (Nat.le_of_lt F.ns.lt))) hI hc) done ht
  rintro i s' h' tk ⟨h, tk0, mm', rfl, F', C', N', P'⟩ hcl hk
  exact ⟨h', tk, mm', rfl, fr_iter F' hk F.ns.lt, C', news_iter N' hk hcl hnf, pile_iter P' hk hcl⟩
theorem fresh_L {h : Heap} {L a : Addr} {m : Str → Option Value} (n : h.Ns L m) (e : h.get? a = none) : a ≠ L := fun q => by
  obtain ⟨o, es, ep, h1, h2, _⟩ := n
  rw [q, h1] at e; cases e
theorem news_off {g h h' : Heap} {L x : Addr} {l : List (Addr × Obj)} (N : News g L h l) (k : ∀ b o, b ≠ x → h.get? b = some o → h'.get? b = some o) (o : OffN x l) : News g L h' l := fun p hp => ⟨k _ _ (Ne.symm (o p hp)) (N p hp).1, (N p hp).2⟩
theorem seq_nf {rest : List (Addr × Obj)} (S : AllSeq rest) : ∀ p ∈ rest, p.2.cls ≠ .type "range_iterator" ∨ ∀ fs, p.2.data ≠ .fields fs := fun p hp => .inr fun fs w => by
  obtain ⟨_, r, e⟩ := S p hp
  rw [e] at w; cases w
end Mine
end
section
open PySem PySem.W PyProof.Rows PySem.Calls
set_option maxRecDepth 100000
set_option maxHeartbeats 8000000
namespace Mine
/-- the pieces of a pile, in the ledger or old -/
noncomputable def PairsIn (g : Heap) (rest : List (Addr × Obj)) (vs : List Value) (ts : List (Str × Str)) : Prop := vs.length = ts.length ∧ ∀ (j : Nat) (q : Str × Str), ts[j]? = some q → ∃ (a : Addr) (t1 t2 : Tok), vs[j]? = some (Value.ref a) ∧ (g.get? a = some (tup2 q.1 q.2 t1 t2) ∨ (a, tup2 q.1 q.2 t1 t2) ∈ rest)
noncomputable def restP (g h : Heap) (vs : List Value) : List (Addr × Obj) := vs.filterMap fun v => match v with | .ref a => (match g.get? a with | some _ => none | none => (h.get? a).map fun o => (a, o)) | _ => none
theorem pairs_rest {g h : Heap} {L : Addr} {mm : Str → Option Value} {vs : List Value} {ts : List (Str × Str)} (F : Fr g L h mm) (P : PairsAt h vs ts) : ∃ rest, News g L h rest ∧ PairsIn g rest vs ts ∧ AllSeq rest := by
  have all : ∀ p ∈ restP g h vs, ∃ (q : Str × Str) (t1 t2 : Tok), p.2 = tup2 q.1 q.2 t1 t2 ∧ h.get? p.1 = some p.2 ∧ g.get? p.1 = none := by
    intro p hp
    unfold restP at hp
    rw [List.mem_filterMap] at hp
    obtain ⟨v, hv, e⟩ := hp
    obtain ⟨j, hj, ej⟩ := List.mem_iff_getElem.mp hv
    have hj' : j < ts.length := by rw [← P.1]; exact hj
    obtain ⟨a', t1, t2, e1, e2⟩ := P.2 j ts[j] (List.getElem?_eq_getElem hj')
    rw [List.getElem?_eq_getElem hj, ej] at e1
    injection e1 with e1
    subst e1
    dsimp only at e
    cases hg : g.get? a' with
    | some o => rw [hg] at e; cases e
    | none =>
      rw [hg, e2] at e
      dsimp only [Option.map] at e
      injection e with e
      rw [← e]
      exact ⟨_, _, _, rfl, e2, hg⟩
  refine ⟨restP g h vs, fun p hp => ?_, ⟨P.1, fun j q e => ?_⟩, fun p hp => ?_⟩
  · obtain ⟨q, t1, t2, e, e1, e2⟩ := all p hp
    refine ⟨e1, fun c => ?_, e2⟩
    obtain ⟨o, es, ep, h1, h2, _⟩ := F.ns
    rw [← c, e1] at h1
    injection h1 with h1
    rw [← h1, e] at h2
    cases h2
  · obtain ⟨a, t1, t2, e1, e2⟩ := P.2 j q e
    cases hg : g.get? a with
    | some o =>
      have := F.keep a o hg
      rw [e2] at this
      injection this with this
      exact ⟨a, t1, t2, e1, .inl (by rw [hg, this])⟩
    | none =>
      refine ⟨a, t1, t2, e1, .inr ?_⟩
      unfold restP
      rw [List.mem_filterMap]
      exact ⟨.ref a, List.mem_of_getElem? e1, by dsimp only; rw [hg, e2]; rfl⟩
  · obtain ⟨q, t1, t2, e, _⟩ := all p hp
    rw [e]; exact ⟨rfl, _, rfl⟩
theorem pairs_of {g h : Heap} {L : Addr} {mm : Str → Option Value} {vs : List Value} {ts : List (Str × Str)} {rest : List (Addr × Obj)} (F : Fr g L h mm) (N : News g L h rest) (P : PairsIn g rest vs ts) : PairsAt h vs ts := by
  refine ⟨P.1, fun j q e => ?_⟩
  obtain ⟨a, t1, t2, e1, e2⟩ := P.2 j q e
  rcases e2 with e2 | e2
  · exact ⟨a, t1, t2, e1, F.keep _ _ e2⟩
  · exact ⟨a, t1, t2, e1, (N _ e2).1⟩
noncomputable def LastAt (h : Heap) (P : Prop) (vl : Value) : Prop := P → ∃ c t1 t2, vl = .ref c ∧ h.get? c = some (tup2 Str.empty Str.empty t1 t2)
/-- `for x in range(cnt)` with what holds ahead of each turn -/
theorem range_loop2 {prog : Program} {w : World} {A : Around} {s : Shared} {E : Value → Shared → Prop} {R : Result → Shared → Prop} {target : Expr} {body orelse : List Stmt} {env : Env} {r : Addr} {cnt : Nat} {t u v : Tok} (hh : A.handled = none)
    (hr : IsRange s.heap r 0 (cnt : Int) 1 t u v) (hc : cnt ≤ 1000000) (J : Nat → Shared → Prop)
    (move : ∀ i (s' : Shared) h' tk, J i s' → (∀ o, s'.heap.get? s.heap.objs.size = some o → o.cls = .type "range_iterator" ∧ ∃ fs, o.data = .fields fs) → (∀ b o, b ≠ s.heap.objs.size → s'.heap.get? b = some o → h'.get? b = some o) → J i { s' with heap := h', toks := tk })
    (start : J 0 s)
    (step : ∀ i (s' : Shared) oI t', i < cnt → J i s' → s'.heap.get? s.heap.objs.size = some oI → oI.cls = .type "range_iterator" ∧ (∃ fs, oI.data = .fields fs) → wpAny (model prog w) A (assign target env (.int (i : Int) t')) (fun _ s₂ => wpAny (model prog w) A (execs body env) (fun f s₃ => match f with
          | .next | .cont => TurnEnd J s.heap.objs.size oI i s₃
          | .brk => R (.ok .next) s₃
          | .ret v => R (.ok (.ret v)) s₃) (notedBy (model prog w) A env fun e s' => R (.error e) s') s₂) (notedBy (model prog w) A env fun e s' => R (.error e) s') s')
    (done : ∀ s', J cnt s' → wpAny (model prog w) A (execs orelse env) (fun f s₃ => R (.ok f) s₃) (notedBy (model prog w) A env fun e s' => R (.error e) s') s')
    (ht : ∀ it v, letOwnedTupleGo target it v = pure ()) :
    wpAny (model prog w) A (pyIter (.ref r)) (fun it s₂ => codeAny (model prog w) A (.forLoop target it body orelse env) R s₂) E s := by
  have hsm : Builtin.Range.small 0 (cnt : Int) 1 = true := small_one (by omega) (by omega) (by omega) (by omega)
  have hn : Builtin.Range.rangeSize 0 (cnt : Int) 1 = ((cnt : Nat) : Int) := by rw [rangeSize_one]; split <;> omega
  refine wpAny_pyIter_range hr hsm ?_
  rw [hn]
  have W := fun (i : Nat) => LCg.range_walks (prog := prog) (w := w) (I := s.heap.objs.size) hh 0 cnt
  have cl : ∀ {a b : Int} (s' : Shared), IsRangeIter s'.heap s.heap.objs.size a b 1 → ∀ o, s'.heap.get? s.heap.objs.size = some o → o.cls = .type "range_iterator" ∧ ∃ fs, o.data = .fields fs := fun s' st o e => by
    have st' : s'.heap.get? s.heap.objs.size = some _ := st
    rw [st'] at e; cases e; exact ⟨rfl, _, rfl⟩
  refine codeAny_forLoop (fun k s' => ∃ i, i ≤ cnt ∧ k = cnt - i ∧ J i s' ∧ IsRangeIter s'.heap s.heap.objs.size (0 + (i : Nat) * 1) ((cnt : Int) - (i : Nat)) 1) ?_ cnt ⟨0, Nat.zero_le _, rfl, ?_, ?_⟩ (ht _)
  · rintro k s' ⟨i, hi, rfl, hJ, hit⟩
    by_cases hlt : i < cnt
    · refine (W 0).item i s' _ _ hlt hit fun v h' tk hP st' hk => ?_
      obtain ⟨t', rfl⟩ := hP
      have st2 : h'.get? s.heap.objs.size = some _ := st'
      rw [Int.zero_add]
      refine wpAny_mono (step i { s' with heap := h', toks := tk } _ t' hlt (move i s' h' tk hJ (cl s' hit) fun b o hb e => hk b o (fun q => hb (List.mem_singleton.mp q)) e) st2 ⟨rfl, _, rfl⟩) (fun _ s₂ h₂ => wpAny_mono h₂ (fun f s₃ h₃ => ?_) fun _ _ e => e) fun _ _ e => e
      cases f with
      | next => exact ⟨cnt - (i + 1), by omega, i + 1, hlt, rfl, h₃.1, h₃.2⟩
      | cont => exact ⟨cnt - (i + 1), by omega, i + 1, hlt, rfl, h₃.1, h₃.2⟩
      | brk => exact h₃
      | ret v => exact h₃
    · obtain rfl : i = cnt := Nat.le_antisymm hi (Nat.not_lt.mp hlt)
      refine (W 0).done s' _ _ hit fun h' tk hk => ?_
      exact done _ (move _ s' h' tk hJ (cl s' hit) fun b o hb e => hk b o (fun q => hb (List.mem_singleton.mp q)) e)
  · exact move 0 s _ s.toks start (fun o e => absurd (Heap.lt_size e) (Nat.lt_irrefl _)) fun b o _ e => Heap.get?_push_of_some _ e
  · show (s.heap.push _).get? _ = _
    simpa using Heap.get?_push_size _ rfl
/-- what holds ahead of each place -/
noncomputable def MI (os : OsState) (g : Heap) (L x dx aS aM a7 : Addr) (news : List (Addr × Obj)) (m n b st : Nat) (p : Int) (tb ts tp : Tok) (fs : List Int) (i : Nat) (s' : Shared) : Prop :=
  ∃ mm vS kS vM kM tw vl o7 c7 p84 p91, Fr g L s'.heap mm ∧ Core mm b st p tb ts tp x ∧ mm (Str.ofString "sums") = some (.ref aS) ∧ mm (Str.ofString "marks") = some (.ref aM) ∧ mm (Str.ofString "whole") = some (.int (wholeP fs n i) tw) ∧ mm (Str.ofString "last") = some vl ∧ o7.data = .cell c7 ∧
    News g L s'.heap ((aS, W.listOf (List.toArray vS) kS) :: (aM, W.listOf (List.toArray vM) kM) :: (a7, o7) :: (84, tabObj p84) :: (91, tabObj p91) :: news) ∧ IntsAre vS (sumsP m n fs i) ∧ IntsAre vM (marksP m n i) ∧ TabOk lenPos p84 ∧ TabOk strPos p91 ∧
    PileAt s'.heap x dx (tsOf m n i) ∧ AllBare s'.gens ∧ s'.os = os ∧ LastAt s'.heap (i = m ^ n) vl
theorem main_for {prog : Program} {w : World} {A : Around} {s : Shared} {E : Value → Shared → Prop} {R : Result → Shared → Prop} {target : Expr} {body orelse : List Stmt} {env : Env} {r : Addr} {cnt : Nat} {t u v : Tok}
    {os : OsState} {g : Heap} {L x dx aS aM a7 : Addr} {news : List (Addr × Obj)} {m n b st : Nat} {p : Int} {tb ts tp : Tok} {fs : List Int} (hh : A.handled = none)
    (hr : IsRange s.heap r 0 (cnt : Int) 1 t u v) (hc : cnt ≤ 1000000) (S0 : MI os g L x dx aS aM a7 news m n b st p tb ts tp fs 0 s) (hL : L < s.heap.objs.size) (hg : g.get? s.heap.objs.size = none)
    (hnf : ∀ p ∈ news, p.2.cls ≠ .type "range_iterator" ∨ ∀ fs, p.2.data ≠ .fields fs)
    (sd : (∀ I i (s' : Shared) oI t', i < cnt → MI os g L x dx aS aM a7 news m n b st p tb ts tp fs i s' → L < I → g.get? I = none → s'.heap.get? I = some oI → oI.cls = .type "range_iterator" ∧ (∃ fs, oI.data = .fields fs) → wpAny (model prog w) A (assign target env (.int (i : Int) t')) (fun _ s₂ => wpAny (model prog w) A (execs body env) (fun f s₃ => match f with
          | .next | .cont => TurnEnd (MI os g L x dx aS aM a7 news m n b st p tb ts tp fs) I oI i s₃
          | .brk => R (.ok .next) s₃
          | .ret v => R (.ok (.ret v)) s₃) (notedBy (model prog w) A env fun e s' => R (.error e) s') s₂) (notedBy (model prog w) A env fun e s' => R (.error e) s') s') ∧
      (∀ s', MI os g L x dx aS aM a7 news m n b st p tb ts tp fs cnt s' → wpAny (model prog w) A (execs orelse env) (fun f s₃ => R (.ok f) s₃) (notedBy (model prog w) A env fun e s' => R (.error e) s') s'))
    (ht : ∀ it v, letOwnedTupleGo target it v = pure ()) :
    wpAny (model prog w) A (pyIter (.ref r)) (fun it s₂ => codeAny (model prog w) A (.forLoop target it body orelse env) R s₂) E s := by
  obtain ⟨step, done⟩ := sd
  refine range_loop2 hh hr hc (MI os g L x dx aS aM a7 news m n b st p tb ts tp fs) ?_ S0 (fun i s' oI t' hi hJ hI hc => step _ i s' oI t' hi hJ hL hg hI hc) done ht
  rintro i s' h' tk ⟨mm, vS, kS, vM, kM, tw, vl, o7, c7, p84, p91, F, C, e1, e2, e3, e4, d7, N, i1, i2, k1, k2, P, G, ho, la⟩ hcl hk
  refine ⟨mm, vS, kS, vM, kM, tw, vl, o7, c7, p84, p91, fr_iter F hk hL, C, e1, e2, e3, e4, d7, news_iter N hk hcl ?_, i1, i2, k1, k2, pile_iter P hk hcl, G, ho, fun hp => ?_⟩
  · exact List.forall_mem_cons.mpr ⟨.inr (fun fs w => by cases w), List.forall_mem_cons.mpr ⟨.inr (fun fs w => by cases w), List.forall_mem_cons.mpr ⟨cell_nf d7, List.forall_mem_cons.mpr ⟨.inl (by intro w; cases w), List.forall_mem_cons.mpr ⟨.inl (by intro w; cases w), hnf⟩⟩⟩⟩⟩
  · obtain ⟨c, t1, t2, e, e'⟩ := la hp
    exact ⟨c, t1, t2, e, data_ne hk hcl (fun fs w => by cases w) e'⟩
end Mine

end
section
open PySem PySem.W PyProof.Rows PySem.Calls
set_option maxRecDepth 100000
set_option maxHeartbeats 8000000
namespace Mine
section
variable {prog : Program} {w : World} {A : Around} {E : Value → Shared → Prop} {s : Shared} {Q : Value → Shared → Prop} {t u : Tok}
theorem pow_nat {a e : Nat} {x : Int} (hx : x = (e : Int)) (ha : a ≤ 1000) (he : e ≤ 1000) (h : Q (.int ((a ^ e : Nat) : Int) s.toks) { s with toks := s.toks + 1 }) : wpAny (model prog w) A (binaryOp .Pow (.int (a : Int) t) (.int x u)) Q E s := by
  subst hx
  refine pow_int_small (by omega) (by omega) ?_ ?_
  · rw [Int.natAbs_natCast]; have : (1000 : Nat) < 2 ^ 64 := by decide
    omega
  · rw [Int.toNat_natCast, ← Int.natCast_pow]; exact h
theorem div_nat {a b : Nat} (hb : 0 < b) (hb2 : b ≤ 1000000) (h : Q (.int ((a / b : Nat) : Int) s.toks) { s with toks := s.toks + 1 }) : wpAny (model prog w) A (binaryOp .FloorDiv (.int (a : Int) t) (.int (b : Int) u)) Q E s := by
  refine floordiv_int (by omega) ?_ (.inl (PyProof.noPylong_small (by rw [Int.natAbs_natCast]; omega)))
  rw [Int.fdiv_eq_ediv_of_nonneg _ (Int.natCast_nonneg b), ← Int.natCast_ediv]; exact h
theorem mod_nat {a b : Nat} (hb : 0 < b) (h : Q (.int ((a % b : Nat) : Int) s.toks) { s with toks := s.toks + 1 }) : wpAny (model prog w) A (binaryOp .Mod (.int (a : Int) t) (.int (b : Int) u)) Q E s := by
  refine mod_int' (by omega) ?_
  rw [Int.fmod_eq_emod_of_nonneg _ (Int.natCast_nonneg b), ← Int.natCast_emod]; exact h
end
/-- the figures as ints, the highest first -/
noncomputable def figsTo (m n i : Nat) (j : Nat) : List Int := (List.range j).map fun k => ((digit m (n - 1 - k) i : Nat) : Int)
theorem figsTo_succ (m n i j : Nat) : figsTo m n i (j + 1) = figsTo m n i j ++ [((digit m (n - 1 - j) i : Nat) : Int)] := by
  unfold figsTo; rw [List.range_succ, List.map_append]; rfl
theorem figs_text : ∀ mn ∈ menu, ∀ i ∈ List.range (mn.1 ^ mn.2), Txt.join (Str.ofString "") ((figsTo mn.1 mn.2 i mn.2).map fun d => Txt.mul (Str.ofString " ") d ++ Str.ofString "o") = textOf (tsOf mn.1 mn.2 i) := by decide +kernel
theorem figs_small {m n i j : Nat} (hm : 2 ≤ m) : ∀ d ∈ figsTo m n i j, 0 ≤ d ∧ d < (m : Int) := by
  intro d hd
  unfold figsTo at hd
  obtain ⟨k, _, rfl⟩ := List.mem_map.mp hd
  unfold digit
  have : i / m ^ (n - 1 - k) % m < m := Nat.mod_lt _ (by omega)
  omega
end Mine

end
section
open PySem PySem.W PyProof.Rows PySem.Calls
set_option maxRecDepth 100000
set_option maxHeartbeats 8000000
namespace Mine
theorem K_str {w p loose mean mg mb A s Q E h₀ x dx ts ps} : type_of% (str_pile w p loose mean mg mb A s Q E h₀ x dx ts ps) := str_pile w p loose mean mg mb A s Q E h₀ x dx ts ps
theorem K_len {w p loose mean mg mb A s Q E h₀ L m x dx ts ps} : type_of% (len_pile w p loose mean mg mb A s Q E h₀ L m x dx ts ps) := len_pile w p loose mean mg mb A s Q E h₀ L m x dx ts ps
theorem off_tab {g h : Heap} {L a : Addr} {l : List (Addr × Obj)} {ps : Array Value} (N : News g L h l) (e : h.get? a = some (tabObj ps)) (k : ∀ p ∈ l, (∀ fs, p.2.data ≠ .fields fs) ∨ p.1 ≠ a) : ∀ p ∈ l, p.1 ≠ a := fun p hp q => by
  rcases k p hp with k | k
  · have e1 := (N p hp).1
    rw [q, e] at e1
    injection e1 with e1
    exact k ps (by rw [← e1])
  · exact k q
theorem seq_tab {rest : List (Addr × Obj)} {a : Addr} (S : AllSeq rest) : ∀ p ∈ rest, (∀ fs, p.2.data ≠ .fields fs) ∨ p.1 ≠ a := fun p hp => .inl fun fs w => by
  obtain ⟨_, r, e⟩ := S p hp
  rw [e] at w; cases w
theorem cell_tab {o : Obj} {c : Option Value} {p : Prop} (d : o.data = .cell c) : (∀ fs, o.data ≠ .fields fs) ∨ p := .inl fun fs w => by rw [d] at w; cases w
theorem news_but1 {g h h' : Heap} {L a : Addr} {l : List (Addr × Obj)} (N : News g L h l) (k : ∀ b o, b ≠ a → h.get? b = some o → h'.get? b = some o) (o : ∀ p ∈ l, p.1 ≠ a) : News g L h' l := fun p hp => ⟨k _ _ (o p hp) (N p hp).1, (N p hp).2⟩
theorem strs_snoc {vs : List Value} {ss : List Str} (h : StrsAre vs ss) (x : Str) (t : Tok) : StrsAre (vs ++ [.str x t]) (ss ++ [x]) := by
  induction h with
  | nil => exact .cons _ _ .nil
  | cons a b h ih => exact .cons _ _ ih
noncomputable def figText (d : Int) : Str := Txt.mul (Str.ofString " ") d ++ Str.ofString "o"
theorem small_cases {d : Int} (h : 0 ≤ d) (h2 : d < 5) : d = 0 ∨ d = 1 ∨ d = 2 ∨ d = 3 ∨ d = 4 := by omega
theorem mulOk_small {d : Int} (h : 0 ≤ d) (h2 : d < 5) : MulOk (Str.ofString " ") d := by
  unfold MulOk
  have hl : (Str.ofString " ").length = 1 := by decide +kernel
  rw [hl]
  rcases small_cases h h2 with rfl | rfl | rfl | rfl | rfl <;> exact ⟨by decide, by decide, by decide +kernel⟩
theorem mul_len {d : Int} (h : 0 ≤ d) (h2 : d < 5) : (Txt.mul (Str.ofString " ") d).length ≤ 5 := by
  rcases small_cases h h2 with rfl | rfl | rfl | rfl | rfl <;> decide +kernel
theorem fig_len {d : Int} (h : 0 ≤ d) (h2 : d < 5) : (figText d).length ≤ 6 := by
  rcases small_cases h h2 with rfl | rfl | rfl | rfl | rfl <;> decide +kernel
end Mine
namespace Mine
theorem ne_same {prog : Program} {w : World} {A : Around} {E : Value → Shared → Prop} {s : Shared} {x y : Str} {t u : Tok} {Q : Value → Shared → Prop} (e : x = y) (h : Q (.bool false) s) : wpAny (model prog w) A (compareOp .NotEq (.str x t) (.str y u)) Q E s := by
  subst e
  refine PySem.P.ne_str ?_
  rw [bne_self_eq_false]; exact h
end Mine
namespace Mine
theorem texts_sum {m n i : Nat} (hm : 2 ≤ m) (hm5 : m ≤ 5) (hn : n ≤ 4) : (((figsTo m n i n).map figText).map (·.length)).sum + ((figsTo m n i n).map figText).length ≤ 1048576 := by
  have key : ∀ l : List Int, (∀ d ∈ l, 0 ≤ d ∧ d < (m : Int)) → ((l.map figText).map (·.length)).sum ≤ 6 * l.length := by
    intro l
    induction l with
    | nil => intro _; simp
    | cons d l ih =>
      intro h
      have h1 := h d (.head _)
      have h2 := ih fun e he => h e (.tail _ he)
      have h3 := fig_len h1.1 (by omega)
      simp only [List.map_cons, List.sum_cons, List.length_cons]
      omega
  have h1 := key (figsTo m n i n) (figs_small hm)
  have h2 : (figsTo m n i n).length = n := by simp [figsTo]
  simp only [List.length_map]
  rw [h2] at h1 ⊢
  omega
end Mine
namespace Mine
theorem K_rgb {w p loose mean mg mb A s Q E r gr b t1 t2 t3} : type_of% (c_rgb w p loose mean mg mb A s Q E r gr b t1 t2 t3) := c_rgb w p loose mean mg mb A s Q E r gr b t1 t2 t3
end Mine
namespace Mine
theorem item_at {prog : Program} {w : World} {A : Around} {E : Value → Shared → Prop} {s : Shared} {value slice : Expr} {l : Addr} {items : Array Value} {k : Nat} {u : Tok} {x : Value} {Q : Value → Shared → Prop} (hl : s.heap.IsList l items) (hk : k ≤ 1000) (hx : items[k]? = some x) (h : Q x s)
    (hs : subscripted slice false (.ref l) (.int (k : Int) u) = operate [.ref l, .int (k : Int) u] (getItem (.ref l) (.int (k : Int) u))) (hg : ∀ r, letTemporaryGo value (.ref l) r = pure ()) :
    wpAny (model prog w) A (subscriptTail value slice (.ref l) (.int (k : Int) u)) Q E s :=
  PyProof.Rows.item_list hl (by omega) (by omega) (by rw [Int.toNat_natCast]; exact hx) h hs hg
end Mine

end
section
open PySem PySem.W PyProof.Rows PySem.Calls
set_option maxRecDepth 100000
set_option maxHeartbeats 8000000
namespace Mine
noncomputable def isFin (x : UInt64) : Bool := match Float64.decode x with | .fin _ _ _ => true | _ => false
noncomputable def truncF (x : UInt64) : Int := match Float64.decode x with | .fin sg m e => Float64.truncOf sg m e | _ => 0
section
variable {prog : Program} {w : World} {A : Around} {E : Value → Shared → Prop} {s : Shared} {Q : Value → Shared → Prop} {t u : Tok}
theorem int_f {x : UInt64} (hf : isFin x = true) (h : Q (.int (truncF x) s.toks) { s with toks := s.toks + 1 }) : wpAny (model prog w) A (PySem.call (.type "int") [.float x t]) Q E s := by
  cases hd : Float64.decode x with
  | fin sg m e =>
    refine call_int_float hd ?_
    unfold truncF at h
    rw [hd] at h
    exact h
  | nan => unfold isFin at hf; rw [hd] at hf; cases hf
  | inf a => unfold isFin at hf; rw [hd] at hf; cases hf
theorem int_eq_f {x : UInt64} {k : Int} (hf : isFin x = true) (e : truncF x = k) (h : Q (.int k s.toks) { s with toks := s.toks + 1 }) : wpAny (model prog w) A (PySem.call (.type "int") [.float x t]) Q E s := by
  subst e
  exact int_f hf h
theorem mul_f_int {a : UInt64} {b : Int} (hb : ¬ Float64.isInf (Float64.ofInt b) = true) (h : Q (.float (Float64.mul a (Float64.ofInt b)) s.toks) { s with toks := s.toks + 1 }) : wpAny (model prog w) A (binaryOp .Mult (.float a t) (.int b u)) Q E s :=
  AutoFloatOps.mul_fi_1 hb h
theorem mod_eq {a b k : Int} (hb : b ≠ 0) (e : a.fmod b = k) (h : Q (.int k s.toks) { s with toks := s.toks + 1 }) : wpAny (model prog w) A (binaryOp .Mod (.int a t) (.int b u)) Q E s := by
  subst e
  exact mod_int' hb h
end
noncomputable def half : UInt64 := 4602678819172646912
noncomputable def placeOk (m n b st i : Nat) (col : Col) : Bool :=
  let r := rgbP col.1 col.2.1 col.2.2
  let a := Float64.mul r.1 (Float64.ofInt (m : Int))
  let x1 := Float64.add a half
  let x2 := Float64.add (Float64.mul a (Float64.ofInt 1073741824)) half
  let x3 := Float64.add (Float64.mul r.2.1 (Float64.ofInt 1073741824)) half
  let x4 := Float64.add (Float64.mul r.2.2 (Float64.ofInt 1073741824)) half
  (isFin x1 && isFin x2 && isFin x3 && isFin x4) && ((truncF x1).fmod (m : Int) == ((toldP m n i : Nat) : Int) && ((truncF x2).fmod ((m : Int) * 1073741824) == ((toldP m n i : Nat) : Int) * 1073741824 &&
    (truncF x3 == ((b : Int) * 1073741824).fdiv 4 && truncF x4 == ((st : Int) * 1073741824).fdiv 2)))
noncomputable def rowOk (m n b st : Nat) : Nat → List Col → Bool
  | _, [] => true
  | i, c :: cs => placeOk m n b st i c && rowOk m n b st (i + 1) cs
theorem rowOk_get {m n b st : Nat} : ∀ {cs : List Col} {i j : Nat}, rowOk m n b st i cs = true → ∀ (h : j < cs.length), placeOk m n b st (i + j) cs[j] = true
  | c :: cs, i, 0, e, h => by
    rw [rowOk, Bool.and_eq_true] at e; exact e.1
  | c :: cs, i, j + 1, e, h => by
    rw [rowOk, Bool.and_eq_true] at e
    have := rowOk_get (i := i + 1) (j := j) e.2 (by simpa using h)
    rw [show i + 1 + j = i + (j + 1) by omega] at this
    exact this
/-- all that the floats are to say of one choice -/
noncomputable def caseOk (m n b st : Nat) : Bool := rowsOk m n b st && rowOk m n b st 0 (rowsP m b st n)
theorem mul_inf {m : Nat} (h : 2 ≤ m) (h2 : m ≤ 5) : ¬ Float64.isInf (Float64.ofInt (m : Int)) = true := by
  have : m = 2 ∨ m = 3 ∨ m = 4 ∨ m = 5 := by omega
  rcases this with rfl | rfl | rfl | rfl <;> decide +kernel
theorem part_inf : ¬ Float64.isInf (Float64.ofInt 1073741824) = true := by decide +kernel
theorem caseOk2311 : caseOk 2 3 1 1 = true := by decide +kernel
theorem caseOk2312 : caseOk 2 3 1 2 = true := by decide +kernel
theorem caseOk2321 : caseOk 2 3 2 1 = true := by decide +kernel
theorem caseOk2322 : caseOk 2 3 2 2 = true := by decide +kernel
theorem caseOk2331 : caseOk 2 3 3 1 = true := by decide +kernel
theorem caseOk2332 : caseOk 2 3 3 2 = true := by decide +kernel
theorem caseOk3211 : caseOk 3 2 1 1 = true := by decide +kernel
theorem caseOk3212 : caseOk 3 2 1 2 = true := by decide +kernel
theorem caseOk3221 : caseOk 3 2 2 1 = true := by decide +kernel
theorem caseOk3222 : caseOk 3 2 2 2 = true := by decide +kernel
theorem caseOk3231 : caseOk 3 2 3 1 = true := by decide +kernel
theorem caseOk3232 : caseOk 3 2 3 2 = true := by decide +kernel
theorem caseOk2411 : caseOk 2 4 1 1 = true := by decide +kernel
theorem caseOk2412 : caseOk 2 4 1 2 = true := by decide +kernel
theorem caseOk2421 : caseOk 2 4 2 1 = true := by decide +kernel
theorem caseOk2422 : caseOk 2 4 2 2 = true := by decide +kernel
theorem caseOk2431 : caseOk 2 4 3 1 = true := by decide +kernel
theorem caseOk2432 : caseOk 2 4 3 2 = true := by decide +kernel
theorem caseOk4211 : caseOk 4 2 1 1 = true := by decide +kernel
theorem caseOk4212 : caseOk 4 2 1 2 = true := by decide +kernel
theorem caseOk4221 : caseOk 4 2 2 1 = true := by decide +kernel
theorem caseOk4222 : caseOk 4 2 2 2 = true := by decide +kernel
theorem caseOk4231 : caseOk 4 2 3 1 = true := by decide +kernel
theorem caseOk4232 : caseOk 4 2 3 2 = true := by decide +kernel
theorem caseOk3311 : caseOk 3 3 1 1 = true := by decide +kernel
theorem caseOk3312 : caseOk 3 3 1 2 = true := by decide +kernel
theorem caseOk3321 : caseOk 3 3 2 1 = true := by decide +kernel
theorem caseOk3322 : caseOk 3 3 2 2 = true := by decide +kernel
theorem caseOk3331 : caseOk 3 3 3 1 = true := by decide +kernel
theorem caseOk3332 : caseOk 3 3 3 2 = true := by decide +kernel
theorem caseOk5211 : caseOk 5 2 1 1 = true := by decide +kernel
theorem caseOk5212 : caseOk 5 2 1 2 = true := by decide +kernel
theorem caseOk5221 : caseOk 5 2 2 1 = true := by decide +kernel
theorem caseOk5222 : caseOk 5 2 2 2 = true := by decide +kernel
theorem caseOk5231 : caseOk 5 2 3 1 = true := by decide +kernel
theorem caseOk5232 : caseOk 5 2 3 2 = true := by decide +kernel
theorem caseOk_at {m n b s : Nat} (h : (m, n) ∈ menu) (hb : 1 ≤ b) (hb3 : b ≤ 3) (hs : 1 ≤ s) (hs2 : s ≤ 2) : caseOk m n b s = true := by
  simp only [menu, List.mem_cons, Prod.mk.injEq, List.mem_nil_iff, or_false] at h
  have hbb : b = 1 ∨ b = 2 ∨ b = 3 := by omega
  have hss : s = 1 ∨ s = 2 := by omega
  rcases h with ⟨rfl, rfl⟩ | ⟨rfl, rfl⟩ | ⟨rfl, rfl⟩ | ⟨rfl, rfl⟩ | ⟨rfl, rfl⟩ | ⟨rfl, rfl⟩ <;> rcases hbb with rfl | rfl | rfl <;> rcases hss with rfl | rfl
  · exact caseOk2311
  · exact caseOk2312
  · exact caseOk2321
  · exact caseOk2322
  · exact caseOk2331
  · exact caseOk2332
  · exact caseOk3211
  · exact caseOk3212
  · exact caseOk3221
  · exact caseOk3222
  · exact caseOk3231
  · exact caseOk3232
  · exact caseOk2411
  · exact caseOk2412
  · exact caseOk2421
  · exact caseOk2422
  · exact caseOk2431
  · exact caseOk2432
  · exact caseOk4211
  · exact caseOk4212
  · exact caseOk4221
  · exact caseOk4222
  · exact caseOk4231
  · exact caseOk4232
  · exact caseOk3311
  · exact caseOk3312
  · exact caseOk3321
  · exact caseOk3322
  · exact caseOk3331
  · exact caseOk3332
  · exact caseOk5211
  · exact caseOk5212
  · exact caseOk5221
  · exact caseOk5222
  · exact caseOk5231
  · exact caseOk5232
theorem caseOk_all : ∀ mn ∈ menu, ∀ b ∈ [1, 2, 3], ∀ st ∈ [1, 2], caseOk mn.1 mn.2 b st = true := fun mn h b hb s hs => by
  simp only [List.mem_cons, List.mem_nil_iff, or_false] at hb hs
  exact caseOk_at h (by omega) (by omega) (by omega) (by omega)
structure PlaceIs (m n b st i : Nat) (col : Col) : Prop where
  f1 : isFin (Float64.add (Float64.mul (rgbP col.1 col.2.1 col.2.2).1 (Float64.ofInt (m : Int))) half) = true
  f2 : isFin (Float64.add (Float64.mul (Float64.mul (rgbP col.1 col.2.1 col.2.2).1 (Float64.ofInt (m : Int))) (Float64.ofInt 1073741824)) half) = true
  f3 : isFin (Float64.add (Float64.mul (rgbP col.1 col.2.1 col.2.2).2.1 (Float64.ofInt 1073741824)) half) = true
  f4 : isFin (Float64.add (Float64.mul (rgbP col.1 col.2.1 col.2.2).2.2 (Float64.ofInt 1073741824)) half) = true
  e1 : (truncF (Float64.add (Float64.mul (rgbP col.1 col.2.1 col.2.2).1 (Float64.ofInt (m : Int))) half)).fmod (m : Int) = ((toldP m n i : Nat) : Int)
  e2 : (truncF (Float64.add (Float64.mul (Float64.mul (rgbP col.1 col.2.1 col.2.2).1 (Float64.ofInt (m : Int))) (Float64.ofInt 1073741824)) half)).fmod ((m : Int) * 1073741824) = ((toldP m n i : Nat) : Int) * 1073741824
  e3 : truncF (Float64.add (Float64.mul (rgbP col.1 col.2.1 col.2.2).2.1 (Float64.ofInt 1073741824)) half) = ((b : Int) * 1073741824).fdiv 4
  e4 : truncF (Float64.add (Float64.mul (rgbP col.1 col.2.1 col.2.2).2.2 (Float64.ofInt 1073741824)) half) = ((st : Int) * 1073741824).fdiv 2
theorem place_is {m n b st i : Nat} (hmn : (m, n) ∈ menu) (hb : 1 ≤ b) (hb' : b ≤ 3) (hs : 1 ≤ st) (hs' : st ≤ 2) (hi : i < (rowsP m b st n).length) : PlaceIs m n b st i (rowsP m b st n)[i] := by
  have h := caseOk_all (m, n) hmn b (by simp; omega) st (by simp; omega)
  unfold caseOk at h
  rw [Bool.and_eq_true] at h
  have h := rowOk_get (i := 0) (j := i) h.2 hi
  rw [Nat.zero_add] at h
  unfold placeOk at h
  simp only [Bool.and_eq_true, beq_iff_eq] at h
  obtain ⟨⟨⟨⟨f1, f2⟩, f3⟩, f4⟩, e1, e2, e3, e4⟩ := h
  exact ⟨f1, f2, f3, f4, e1, e2, e3, e4⟩

end Mine

end
section
open PySem PySem.W PyProof.Rows PySem.Calls
set_option maxRecDepth 100000
set_option maxHeartbeats 8000000
namespace Mine
theorem rowsOk_all : ∀ mn ∈ menu, ∀ b ∈ [1, 2, 3], ∀ st ∈ [1, 2], rowsOk mn.1 mn.2 b st = true := fun mn h b hb s hs => by
  have k := caseOk_all mn h b hb s hs
  unfold caseOk at k
  rw [Bool.and_eq_true] at k
  exact k.1
theorem rows_ok {m n b st : Nat} (hmn : (m, n) ∈ menu) (hb : 1 ≤ b) (hb' : b ≤ 3) (hs : 1 ≤ st) (hs' : st ≤ 2) {i : Nat} (hi : i ≤ n) : (rowsP m b st i).length = m ^ i ∧ ∀ c ∈ rowsP m b st i, rgbOk c.1 c.2.1 c.2.2 = true := by
  have h := rowsOk_all (m, n) hmn b (by simp; omega) st (by simp; omega)
  unfold rowsOk at h
  have h := List.all_eq_true.mp h i (List.mem_range.mpr (Nat.lt_succ_of_le hi))
  simp only [Bool.and_eq_true, beq_iff_eq] at h
  exact ⟨h.1, fun c hc => List.all_eq_true.mp h.2 c hc⟩
end Mine
end
section
open PySem PySem.W PyProof.Rows PySem.Calls
set_option maxRecDepth 100000
set_option maxHeartbeats 8000000
namespace Mine
/-- a turn's end of a loop that turns the frame alone -/
noncomputable def FoldEnd (s : Shared) (g : Heap) (L : Addr) (C : (Str → Option Value) → Nat → Prop) (news : List (Addr × Obj)) (I : Addr) (oI : Obj) (j : Nat) (s₃ : Shared) : Prop :=
  ∃ h tk mm, s₃ = { s with heap := h, toks := tk } ∧ Fr g L h mm ∧ C mm (j + 1) ∧ News g L h ((I, oI) :: news)
theorem FoldEnd.mk {s : Shared} {g h : Heap} {L I : Addr} {C : (Str → Option Value) → Nat → Prop} {news all : List (Addr × Obj)} {oI : Obj} {j tk : Nat} {mm : Str → Option Value} (F : Fr g L h mm) (N : News g L h all) (sub : ∀ p ∈ (I, oI) :: news, p ∈ all) (c : C mm (j + 1)) :
    FoldEnd s g L C news I oI j { s with heap := h, toks := tk } := ⟨h, tk, mm, rfl, F, c, fun p hp => N p (sub p hp)⟩
theorem seq_fold {prog : Program} {w : World} {A : Around} {s : Shared} {R : Result → Shared → Prop} {target : Expr} {body orelse : List Stmt} {env : Env} {I l : Addr} {items : Array Value} {g : Heap} {L : Addr} {mm₀ : Str → Option Value} {news : List (Addr × Obj)} {ol : Obj} {kl : Nat}
    (C : (Str → Option Value) → Nat → Prop) (hh : A.handled = none) (hit : s.heap.IsListIter I l 0) (hIg : g.get? I = none) (hIL : I ≠ L) (F : Fr g L s.heap mm₀) (C0 : C mm₀ 0) (N : News g L s.heap news) (hln : (l, ol) ∈ news) (hld : ol.data = .seq items kl) (hnI : ∀ p ∈ news, p.1 ≠ I)
    (hgo : ∀ (s' : Shared) (v : Value) (Q : Unit → Shared → Prop) (E : Value → Shared → Prop) (i : Nat), s'.heap.IsListIter I l i → v ∈ items.toList → Q () s' → wpAny (model prog w) A (letOwnedTupleGo target (.ref I) v) Q E s')
    (step : ∀ j h tk mm oI v, items[j]? = some v → Fr g L h mm → C mm j → News g L h ((I, oI) :: news) → oI.cls = .type "list_iterator" → (∃ fs, oI.data = .fields fs) →
      wpAny (model prog w) A (assign target env v) (fun _ s₂ => wpAny (model prog w) A (execs body env) (fun f s₃ => match f with
          | .next | .cont => FoldEnd s g L C news I oI j s₃
          | .brk => R (.ok .next) s₃
          | .ret v => R (.ok (.ret v)) s₃) (notedBy (model prog w) A env fun e s' => R (.error e) s') s₂) (notedBy (model prog w) A env fun e s' => R (.error e) s') { s with heap := h, toks := tk })
    (done : ∀ h tk mm, Fr g L h mm → C mm items.size → News g L h news → wpAny (model prog w) A (execs orelse env) (fun f s₃ => R (.ok f) s₃) (notedBy (model prog w) A env fun e s' => R (.error e) s') { s with heap := h, toks := tk }) :
    codeAny (model prog w) A (.forLoop target (.ref I) body orelse env) R s := by
  refine codeAny_forLoop_any (fun k s' => ∃ h tk mm j, s' = { s with heap := h, toks := tk } ∧ j ≤ items.size ∧ k = items.size - j ∧ Fr g L h mm ∧ C mm j ∧ News g L h news ∧ h.IsListIter I l j) ?_ items.size
    ⟨s.heap, s.toks, mm₀, 0, rfl, Nat.zero_le _, rfl, F, C0, N, hit⟩
  rintro k s' ⟨h, tk, mm, j, rfl, hj, rfl, F', C', N', hit'⟩
  have hS : SeqAt h l items := ⟨ol, kl, (N' _ hln).1, hld⟩
  have keepF : ∀ h', (∀ b o, b ≠ I → h.get? b = some o → h'.get? b = some o) → Fr g L h' mm := fun h' kk => ⟨F'.ns.at' fun o e => kk L o (Ne.symm hIL) e, fun b o e => kk b o (fun q => by rw [q, hIg] at e; cases e) (F'.keep b o e), F'.above⟩
  have keepN : ∀ h', (∀ b o, b ≠ I → h.get? b = some o → h'.get? b = some o) → News g L h' news := fun h' kk p hp => ⟨kk _ _ (hnI p hp) (N' p hp).1, (N' p hp).2⟩
  by_cases hlt : j < items.size
  · refine next_item hit' hS (x := items[j]) (Array.getElem?_eq_getElem hlt) fun h1 hit1 hs1 => ?_
    have kk : ∀ b o, b ≠ I → h.get? b = some o → h1.get? b = some o := fun b o hb e => hs1.extBut b o hb e
    have hit1' := hit1
    obtain ⟨oI, eI, cI, dI⟩ := hit1'
    refine hgo _ _ _ _ (j + 1) hit1 (by simp) ?_
    refine wpAny_mono (step j h1 _ mm oI items[j] (Array.getElem?_eq_getElem hlt) (keepF h1 kk) C' (news_cons (p := (I, oI)) ⟨eI, hIL, hIg⟩ (keepN h1 kk)) cI ⟨_, dI⟩) (fun _ s₂ h₂ => wpAny_mono h₂ (fun f s₃ h₃ => ?_) fun _ _ e => e) fun _ _ e => e
    have back : FoldEnd s g L C news I oI j s₃ → ∃ m', m' < items.size - j ∧ ∃ h tk mm j', s₃ = { s with heap := h, toks := tk } ∧ j' ≤ items.size ∧ m' = items.size - j' ∧ Fr g L h mm ∧ C mm j' ∧ News g L h news ∧ h.IsListIter I l j' := by
      rintro ⟨h3, tk3, mm3, rfl, F3, C3, N3⟩
      exact ⟨items.size - (j + 1), by omega, h3, tk3, mm3, j + 1, rfl, hlt, rfl, F3, C3, fun p hp => N3 p (.tail _ hp), ⟨oI, (N3 _ (.head _)).1, cI, dI⟩⟩
    cases f with
    | next => exact back h₃
    | cont => exact back h₃
    | brk => exact h₃
    | ret v => exact h₃
  · obtain rfl : j = items.size := Nat.le_antisymm hj (Nat.not_lt.mp hlt)
    refine next_end hh hit' hS (by simp) fun h1 hs1 => ?_
    have kk : ∀ b o, b ≠ I → h.get? b = some o → h1.get? b = some o := fun b o hb e => hs1 b o hb e
    exact done h1 _ mm (keepF h1 kk) C' (keepN h1 kk)
end Mine
namespace Mine
noncomputable def CoreB (mm : Str → Option Value) (b st p wh k : Int) (tb ts tp tw tk : Tok) (x aS aM : Addr) : Prop :=
  mm (Str.ofString "bright") = some (.int b tb) ∧ mm (Str.ofString "strong") = some (.int st ts) ∧ mm (Str.ofString "part") = some (.int p tp) ∧ mm (Str.ofString "pile") = some (.ref x) ∧ mm (Str.ofString "sums") = some (.ref aS) ∧ mm (Str.ofString "marks") = some (.ref aM) ∧ mm (Str.ofString "whole") = some (.int wh tw) ∧ mm (Str.ofString "told") = some (.int k tk)
theorem CoreB.set {mm : Str → Option Value} {b st p wh k : Int} {tb ts tp tw tk : Tok} {x aS aM : Addr} (c : CoreB mm b st p wh k tb ts tp tw tk x aS aM) (y : Str) (v : Option Value) (h : y ≠ Str.ofString "bright" ∧ y ≠ Str.ofString "strong" ∧ y ≠ Str.ofString "part" ∧ y ≠ Str.ofString "pile" ∧ y ≠ Str.ofString "sums" ∧ y ≠ Str.ofString "marks" ∧ y ≠ Str.ofString "whole" ∧ y ≠ Str.ofString "told") : CoreB (fun z => if z = y then v else mm z) b st p wh k tb ts tp tw tk x aS aM := by
  obtain ⟨c1, c2, c3, c4, c5, c6, c7, c8⟩ := c
  obtain ⟨h1, h2, h3, h4, h5, h6, h7, h8⟩ := h
  exact ⟨by simpa [Ne.symm h1] using c1, by simpa [Ne.symm h2] using c2, by simpa [Ne.symm h3] using c3, by simpa [Ne.symm h4] using c4, by simpa [Ne.symm h5] using c5, by simpa [Ne.symm h6] using c6, by simpa [Ne.symm h7] using c7, by simpa [Ne.symm h8] using c8⟩
theorem packB {g h : Heap} {L : Addr} {m : Str → Option Value} {b st p wh k v : Int} {tb ts tp tw tk tv : Tok} {x aS aM : Addr} {y : Str} (F : Fr g L h m) (c : CoreB m b st p wh k tb ts tp tw tk x aS aM) (e : m y = some (.int v tv)) : ∃ mm tv, Fr g L h mm ∧ CoreB mm b st p wh k tb ts tp tw tk x aS aM ∧ mm y = some (.int v tv) := ⟨m, tv, F, c, e⟩
noncomputable def valueTo (fs : List Int) (i j : Nat) : Int := (fs.take j).foldl (fun v f => v * (i : Int) + f) 0
theorem valueTo_succ {fs : List Int} {i j : Nat} (h : j < fs.length) : valueTo fs i (j + 1) = valueTo fs i j * (i : Int) + fs[j] := by
  unfold valueTo
  rw [List.take_succ_eq_append_getElem h, List.foldl_append]
  rfl
theorem valueTo_all {fs : List Int} {i : Nat} : valueTo fs i fs.length = valueP fs i := by
  unfold valueTo valueP
  rw [List.take_length]
end Mine
namespace Mine
theorem off_obj {g h : Heap} {L a : Addr} {l : List (Addr × Obj)} {o : Obj} (N : News g L h l) (e : h.get? a = some o) (k : ∀ p ∈ l, p.2 ≠ o ∨ p.1 ≠ a) : ∀ p ∈ l, p.1 ≠ a := fun p hp q => by
  rcases k p hp with k | k
  · have e1 := (N p hp).1
    rw [q, e] at e1
    injection e1 with e1
    exact k e1.symm
  · exact k q
theorem cell_no {o o' : Obj} {c : Option Value} {r : Array Value} {k : Nat} {p : Prop} (d : o.data = .cell c) (d' : o'.data = .seq r k) : o ≠ o' ∨ p := .inl fun q => by rw [q, d'] at d; cases d
theorem cls_no {o o' : Obj} {p : Prop} (d : o.cls ≠ o'.cls) : o ≠ o' ∨ p := .inl fun q => d (by rw [q])
theorem seq_no {rest : List (Addr × Obj)} {a : Addr} {o : Obj} (S : AllSeq rest) (d : o.cls ≠ .type "tuple") : ∀ p ∈ rest, p.2 ≠ o ∨ p.1 ≠ a := fun p hp => .inl fun q => d (by rw [← q]; exact (S p hp).1)
noncomputable def termTo (fs : List Int) (n i j : Nat) : List Int := (List.range j).map fun k => fs.getD k 0 * (i : Int) ^ (n - k)
theorem termTo_succ (fs : List Int) (n i j : Nat) : termTo fs n i (j + 1) = termTo fs n i j ++ [fs.getD j 0 * (i : Int) ^ (n - j)] := by
  unfold termTo; rw [List.range_succ, List.map_append]; rfl
end Mine
namespace Mine
theorem packC {g h : Heap} {L : Addr} {m : Str → Option Value} {b st p wh k v : Int} {tb ts tp tw tk tv : Tok} {x aS aM : Addr} {y : Str} (F : Fr g L h m) (h1 : m (Str.ofString "bright") = some (.int b tb)) (h2 : m (Str.ofString "strong") = some (.int st ts)) (h3 : m (Str.ofString "part") = some (.int p tp)) (h4 : m (Str.ofString "pile") = some (.ref x)) (h5 : m (Str.ofString "sums") = some (.ref aS)) (h6 : m (Str.ofString "marks") = some (.ref aM)) (h7 : m (Str.ofString "whole") = some (.int wh tw)) (h8 : m (Str.ofString "told") = some (.int k tk)) (e : m y = some (.int v tv)) :
    ∃ mm tw tv, Fr g L h mm ∧ CoreB mm b st p wh k tb ts tp tw tk x aS aM ∧ mm y = some (.int v tv) := ⟨m, tw, tv, F, ⟨h1, h2, h3, h4, h5, h6, h7, h8⟩, e⟩
end Mine

end
section
open PySem PySem.W PyProof.Rows PySem.Calls
set_option maxRecDepth 100000
set_option maxHeartbeats 8000000
namespace Mine
noncomputable def lensOf (m n i : Nat) : List Int := (tsOf m n i).map fun q => ((q.1.length : Nat) : Int)
noncomputable def prodTo (m n i j : Nat) : Int := ((lensOf m n i).take j).foldl (fun a d => a * d) 1
theorem prod_all : ∀ mn ∈ menu, ∀ i ∈ List.range (mn.1 ^ mn.2), prodTo mn.1 mn.2 i mn.2 = prodP mn.1 mn.2 i := by decide +kernel
theorem ts_len (m n i : Nat) : (tsOf m n i).length = n := by simp [tsOf]
theorem prodTo_succ {m n i j : Nat} (h : j < (tsOf m n i).length) : prodTo m n i (j + 1) = prodTo m n i j * (((tsOf m n i)[j].1.length : Nat) : Int) := by
  have h' : j < (lensOf m n i).length := by simpa [lensOf] using h
  unfold prodTo
  rw [List.take_succ_eq_append_getElem h', List.foldl_append]
  simp [lensOf]
end Mine

end
section
open PySem PySem.W PyProof.Rows PySem.Calls
set_option maxRecDepth 100000
set_option maxHeartbeats 8000000
namespace Mine
/-- `for x in range(cnt)` that turns the frame alone -/
theorem range_fold {prog : Program} {w : World} {A : Around} {s : Shared} {E : Value → Shared → Prop} {R : Result → Shared → Prop} {target : Expr} {body orelse : List Stmt} {env : Env} {r : Addr} {cnt : Nat} {t u v : Tok} {g : Heap} {L : Addr} {mm₀ : Str → Option Value} {news : List (Addr × Obj)}
    (C : (Str → Option Value) → Nat → Prop) (hh : A.handled = none) (hr : IsRange s.heap r 0 (cnt : Int) 1 t u v) (hc : cnt ≤ 1000000) (F : Fr g L s.heap mm₀) (C0 : C mm₀ 0) (N : News g L s.heap news)
    (hnf : ∀ p ∈ news, p.2.cls ≠ .type "range_iterator" ∨ ∀ fs, p.2.data ≠ .fields fs)
    (step : ∀ I i h tk mm oI t', i < cnt → Fr g L h mm → C mm i → News g L h ((I, oI) :: news) → wpAny (model prog w) A (assign target env (.int (i : Int) t')) (fun _ s₂ => wpAny (model prog w) A (execs body env) (fun f s₃ => match f with
          | .next | .cont => FoldEnd s g L C news I oI i s₃
          | .brk => R (.ok .next) s₃
          | .ret v => R (.ok (.ret v)) s₃) (notedBy (model prog w) A env fun e s' => R (.error e) s') s₂) (notedBy (model prog w) A env fun e s' => R (.error e) s') { s with heap := h, toks := tk })
    (done : ∀ h tk mm, Fr g L h mm → C mm cnt → News g L h news → wpAny (model prog w) A (execs orelse env) (fun f s₃ => R (.ok f) s₃) (notedBy (model prog w) A env fun e s' => R (.error e) s') { s with heap := h, toks := tk })
    (ht : ∀ it v, letOwnedTupleGo target it v = pure ()) :
    wpAny (model prog w) A (pyIter (.ref r)) (fun it s₂ => codeAny (model prog w) A (.forLoop target it body orelse env) R s₂) E s := by
  refine range_loop2 hh hr hc (fun i s' => ∃ h tk mm, s' = { s with heap := h, toks := tk } ∧ Fr g L h mm ∧ C mm i ∧ News g L h news) ?_ ⟨s.heap, s.toks, mm₀, rfl, F, C0, N⟩ ?_ ?_ ht
  · rintro i s' h' tk ⟨h, tk0, mm, rfl, F', C', N'⟩ hcl hk
    exact ⟨h', tk, mm, rfl, fr_iter F' hk F.ns.lt, C', news_iter N' hk hcl hnf⟩
  · rintro i s' oI t' hi ⟨h, tk0, mm, rfl, F', C', N'⟩ hI hIc
    have hLI := F.ns.lt
    refine wpAny_mono (step s.heap.objs.size i h tk0 mm oI t' hi F' C' (news_cons (p := (s.heap.objs.size, oI)) ⟨hI, Nat.ne_of_gt hLI, Heap.get?_none_of_le (Nat.le_trans F.above (Nat.le_of_lt hLI))⟩ N')) (fun _ s₂ h₂ => wpAny_mono h₂ (fun f s₃ h₃ => ?_) fun _ _ e => e) fun _ _ e => e
    have back : FoldEnd s g L C news s.heap.objs.size oI i s₃ → TurnEnd (fun i s' => ∃ h tk mm, s' = { s with heap := h, toks := tk } ∧ Fr g L h mm ∧ C mm i ∧ News g L h news) s.heap.objs.size oI i s₃ := by
      rintro ⟨h3, tk3, mm3, rfl, F3, C3, N3⟩
      exact ⟨⟨h3, tk3, mm3, rfl, F3, C3, fun p hp => N3 p (.tail _ hp)⟩, (N3 _ (.head _)).1⟩
    cases f with
    | next => exact back h₃
    | cont => exact back h₃
    | brk => exact h₃
    | ret v => exact h₃
  · rintro s' ⟨h, tk0, mm, rfl, F', C', N'⟩
    exact done h tk0 mm F' C' N'
/-- what stands behind the last place -/
noncomputable def timesTo (f0 : Int) (m : Nat) : Nat → Int
  | 0 => f0
  | k + 1 => timesTo f0 m k * ((k : Int) + 1) * ((m ^ k : Nat) : Int)
noncomputable def powerP (m n : Nat) : Nat := (m * (m - 1) / 2) ^ n
end Mine
namespace Mine
noncomputable def CoreE (mm : Str → Option Value) (wh : Int) (tw : Tok) (x aS aM : Addr) (vl : Value) : Prop := mm (Str.ofString "pile") = some (.ref x) ∧ mm (Str.ofString "sums") = some (.ref aS) ∧ mm (Str.ofString "marks") = some (.ref aM) ∧ mm (Str.ofString "whole") = some (.int wh tw) ∧ mm (Str.ofString "last") = some vl
theorem pow_eq {prog : Program} {w : World} {A : Around} {E : Value → Shared → Prop} {s : Shared} {Q : Value → Shared → Prop} {t u : Tok} {a x : Int} {b e : Nat} (ha : a = (b : Int)) (hx : x = (e : Int)) (hb : b ≤ 1000) (he : e ≤ 1000) (h : Q (.int ((b ^ e : Nat) : Int) s.toks) { s with toks := s.toks + 1 }) : wpAny (model prog w) A (binaryOp .Pow (.int a t) (.int x u)) Q E s := by
  subst ha
  exact pow_nat hx hb he h
theorem half_eq {m : Nat} (h : 2 ≤ m) (h5 : m ≤ 5) : ((m : Int) * ((m : Int) - 1)).fdiv 2 = ((m * (m - 1) / 2 : Nat) : Int) := by
  have : m = 2 ∨ m = 3 ∨ m = 4 ∨ m = 5 := by omega
  rcases this with rfl | rfl | rfl | rfl <;> decide
theorem ne_int_same {prog : Program} {w : World} {A : Around} {E : Value → Shared → Prop} {s : Shared} {Q : Value → Shared → Prop} {t u : Tok} {a b : Int} (e : a = b) (h : Q (.bool false) s) : wpAny (model prog w) A (compareOp .NotEq (.int a t) (.int b u)) Q E s := by
  subst e
  refine PySem.P.ne_int ?_
  rw [bne_self_eq_false]; exact h
theorem times_small {m n : Nat} (h : (m, n) ∈ menu) {f : Int} (h1 : -1000 ≤ f) (h2 : f ≤ 1000) : -10000000 ≤ timesTo f m n ∧ timesTo f m n ≤ 10000000 := by
  simp only [menu, List.mem_cons, Prod.mk.injEq, List.mem_nil_iff, or_false] at h
  rcases h with ⟨rfl, rfl⟩ | ⟨rfl, rfl⟩ | ⟨rfl, rfl⟩ | ⟨rfl, rfl⟩ | ⟨rfl, rfl⟩ | ⟨rfl, rfl⟩ <;> (simp [timesTo]; omega)
theorem end_text : ∀ mn ∈ menu, textOf (tsOf mn.1 mn.2 (mn.1 ^ mn.2)) = Txt.mul (Str.ofString "o") ((mn.2 : Nat) : Int) := by decide +kernel
theorem mulOk_o {n : Nat} (h : 1 ≤ n) (h2 : n ≤ 4) : MulOk (Str.ofString "o") (n : Int) := by
  unfold MulOk
  have hl : (Str.ofString "o").length = 1 := by decide +kernel
  rw [hl]
  have : n = 1 ∨ n = 2 ∨ n = 3 ∨ n = 4 := by omega
  rcases this with rfl | rfl | rfl | rfl <;> exact ⟨by decide, by decide, by decide +kernel⟩
theorem eq_str_same {prog : Program} {w : World} {A : Around} {E : Value → Shared → Prop} {s : Shared} {x y : Str} {t u : Tok} {Q : Value → Shared → Prop} (e : x = y) (h : Q (.bool true) s) : wpAny (model prog w) A (compareOp .Eq (.str x t) (.str y u)) Q E s := by
  subst e
  refine PySem.P.eq_str ?_
  rw [beq_self_eq_true]; exact h
end Mine
namespace Mine
theorem eq_tup2 {prog : Program} {w : World} {A : Around} {E : Value → Shared → Prop} {s : Shared} {Q : Value → Shared → Prop} {l b : Addr} {x y x' y' : Str} {t1 t2 u1 u2 : Tok} (ex : x = x') (ey : y = y') (hl : s.heap.IsTuple l #[.str x t1, .str y t2]) (hb : s.heap.IsTuple b #[.str x' u1, .str y' u2]) (hu : A.units < cLine) (h : Q (.bool true) s) :
    wpAny (model prog w) A (compareOp .Eq (.ref l) (.ref b)) Q E s := by
  subst ex ey
  refine PySem.SeqAt.RcAt.tuples (e := fun _ => true) hl hb hu (fun j h1 h2 => ?_) prog w E Q (by exact h)
  match j, h1, h2 with
  | 0, _, _ => have := PySem.SeqAt.EqAt.str_str (A := A.in1) (s := s) x t1 x u1; rw [beq_self_eq_true] at this; exact this
  | 1, _, _ => have := PySem.SeqAt.EqAt.str_str (A := A.in1) (s := s) y t2 y u2; rw [beq_self_eq_true] at this; exact this
end Mine

end
section
open PySem PySem.W PyProof.Rows PySem.Calls
set_option maxRecDepth 100000
set_option maxHeartbeats 4000000
namespace Mine
/-- a sum that is linear in the factors -/
noncomputable def dotF : List Int → (Nat → Int) → Int
  | [], _ => 0
  | f :: fs, c => f * c 0 + dotF fs fun j => c (j + 1)
theorem dotF_congr : ∀ {fs : List Int} {a b : Nat → Int}, (∀ j, j < fs.length → a j = b j) → dotF fs a = dotF fs b
  | [], _, _, _ => rfl
  | f :: fs, a, b, h => by
    rw [dotF, dotF, h 0 (by simp), dotF_congr (fs := fs) (a := fun j => a (j + 1)) (b := fun j => b (j + 1)) fun j hj => h (j + 1) (by simpa using hj)]
theorem dotF_add : ∀ (fs : List Int) (a b : Nat → Int), dotF fs (fun j => a j + b j) = dotF fs a + dotF fs b
  | [], _, _ => rfl
  | f :: fs, a, b => by
    rw [dotF, dotF, dotF, dotF_add fs (fun j => a (j + 1)) (fun j => b (j + 1)), Int.mul_add]
    omega
theorem dotF_mul : ∀ (fs : List Int) (a : Nat → Int) (x : Int), dotF fs (fun j => a j * x) = dotF fs a * x
  | [], _, _ => by rw [dotF, dotF, Int.zero_mul]
  | f :: fs, a, x => by
    rw [dotF, dotF, dotF_mul fs (fun j => a (j + 1)) x, Int.add_mul, Int.mul_assoc]
theorem dotF_zero : ∀ (fs : List Int), dotF fs (fun _ => 0) = 0
  | [] => rfl
  | f :: fs => by rw [dotF, dotF_zero fs, Int.mul_zero]; rfl
theorem dotF_head (fs : List Int) : dotF fs (fun j => if j = 0 then 1 else 0) = fs.getD 0 0 := by
  cases fs with
  | nil => rfl
  | cons f fs =>
    rw [dotF]
    have : (fun j : Nat => if j + 1 = 0 then (1 : Int) else 0) = fun _ => 0 := by funext j; exact if_neg (Nat.succ_ne_zero j)
    rw [this, dotF_zero]
    simp
theorem foldl_dot (i : Int) : ∀ (fs : List Int) (v : Int), fs.foldl (fun v f => v * i + f) v = v * i ^ fs.length + dotF fs fun j => i ^ (fs.length - 1 - j)
  | [], v => by simp [dotF]
  | f :: fs, v => by
    rw [List.foldl_cons, foldl_dot i fs, dotF, List.length_cons, Int.add_mul, Int.pow_succ, show fs.length + 1 - 1 - 0 = fs.length by omega]
    have : (fun j => i ^ (fs.length + 1 - 1 - (j + 1))) = fun j => i ^ (fs.length - 1 - j) := by
      funext j
      rw [show fs.length + 1 - 1 - (j + 1) = fs.length - 1 - j by omega]
    rw [this, Int.mul_assoc, Int.mul_comm i]
    omega
theorem value_dot {fs : List Int} {n : Nat} (h : fs.length = n + 1) (i : Nat) : valueP fs i = dotF fs fun j => (i : Int) ^ (n - j) := by
  rw [valueP, foldl_dot, Int.zero_mul, Int.zero_add, h]
  exact dotF_congr fun j _ => by rw [Nat.add_sub_cancel]
theorem range_dot : ∀ (fs : List Int) (c : Nat → Int), ((List.range fs.length).map fun k => fs.getD k 0 * c k).sum = dotF fs c
  | [], _ => rfl
  | f :: fs, c => by
    rw [dotF, ← range_dot fs fun j => c (j + 1), List.length_cons, List.range_succ_eq_map, List.map_cons, List.sum_cons, List.map_map]
    rfl
theorem term_dot {fs : List Int} {n : Nat} (h : fs.length = n + 1) (i : Nat) : termP fs n i = dotF fs fun j => (i : Int) ^ (n - j) := by
  rw [termP, ← h, range_dot]
noncomputable def sumC (m n k : Nat) : Nat → Nat → Int
  | 0, _ => 0
  | i + 1, j => sumC m n k i j + if toldP m n i = k then (i : Int) ^ (n - j) else 0
noncomputable def whC (n : Nat) : Nat → Nat → Int
  | 0, _ => 0
  | i + 1, j => whC n i j + (i : Int) ^ (n - j)
theorem whole_dot {fs : List Int} {n : Nat} (h : fs.length = n + 1) : ∀ i, wholeP fs n i = dotF fs (whC n i)
  | 0 => (dotF_zero fs).symm
  | i + 1 => by
    rw [wholeP, whole_dot h i, term_dot h, ← dotF_add]
    rfl
theorem sums_dot {fs : List Int} {m n k : Nat} (h : fs.length = n + 1) (hk : k < m) : ∀ i, (sumsP m n fs i).getD k 0 = dotF fs (sumC m n k i)
  | 0 => by
    rw [sumsP, show (sumC m n k 0) = (fun _ => 0) from rfl, dotF_zero]
    simp [List.getD_eq_getElem?_getD, List.getElem?_replicate, hk]
  | i + 1 => by
    have e : dotF fs (sumC m n k (i + 1)) = dotF fs (sumC m n k i) + dotF fs (fun j => if toldP m n i = k then (i : Int) ^ (n - j) else 0) := (dotF_add fs _ _)
    rw [sumsP, e, ← sums_dot h hk i, List.getD_eq_getElem?_getD, List.getElem?_set]
    by_cases q : toldP m n i = k
    · have hl : toldP m n i < (sumsP m n fs i).length := by rw [sumsP_len, q]; exact hk
      rw [if_pos q, if_pos hl, value_dot h, q]
      have : (fun j : Nat => if k = k then (i : Int) ^ (n - j) else 0) = fun j => (i : Int) ^ (n - j) := by funext j; exact if_pos rfl
      rw [this]
      rfl
    · rw [if_neg q]
      have : (fun j : Nat => if toldP m n i = k then (i : Int) ^ (n - j) else 0) = fun _ => 0 := by funext j; exact if_neg q
      rw [this, dotF_zero, Int.add_zero, List.getD_eq_getElem?_getD]
theorem times_one (f : Int) (m : Nat) : ∀ k, timesTo f m k = f * timesTo 1 m k
  | 0 => (Int.mul_one f).symm
  | k + 1 => by
    rw [timesTo, timesTo, times_one f m k]
    simp only [Int.mul_assoc]
theorem coef_all : ∀ mn ∈ menu, ∀ k < mn.1, ∀ j < mn.2 + 1, sumC mn.1 mn.2 k (mn.1 ^ mn.2) j * (mn.1 : Int) = whC mn.2 (mn.1 ^ mn.2) j + (if j = 0 then (1 : Int) else 0) * (timesTo 1 mn.1 mn.2 * ((mn.1 : Int) * (marksP mn.1 mn.2 (mn.1 ^ mn.2)).getD k 0 - ((powerP mn.1 mn.2 : Nat) : Int))) := by
  decide +kernel
theorem law_end : ∀ {m n : Nat}, (m, n) ∈ menu → ∀ {fs : List Int}, fs.length = n + 1 → ∀ k, k < m →
    (m : Int) * (sumsP m n fs (m ^ n)).getD k 0 = wholeP fs n (m ^ n) + timesTo (fs.getD 0 0) m n * ((m : Int) * (marksP m n (m ^ n)).getD k 0 - ((powerP m n : Nat) : Int)) := by
  intro m n hmn fs hl k hk
  rw [sums_dot hl hk, whole_dot hl, times_one, ← dotF_head, Int.mul_comm, ← dotF_mul, Int.mul_assoc, ← dotF_mul, ← dotF_add]
  exact dotF_congr fun j hj => coef_all (m, n) hmn k hk j (hl ▸ hj)
end Mine

end
section
open PySem PySem.W PyProof.Rows PySem.Calls
set_option maxRecDepth 100000
set_option maxHeartbeats 8000000
set_option pp.deepTerms false
set_option pp.maxSteps 3000
set_option pp.proofs false
set_option linter.unusedVariables false
namespace Mine
theorem len_is {prog : Program} {w : World} {A : Around} {E : Value → Shared → Prop} {s : Shared} {l : Addr} {items : Array Value} {k : Nat} {Q : Value → Shared → Prop} (hl : s.heap.IsList l items) (e : items.size = k) (hk : k ≤ 1000)
    (h : Q (.int (k : Int) (s.toks + 1)) { s with toks := s.toks + 1 + 1 }) : wpAny (model prog w) A (PySem.call (.builtin "len") [.ref l]) Q E s := by
  subst e
  exact PyProof.Rows.len_list hl (by omega) h
theorem pile_mk {h : Heap} {x dx : Addr} {vs : List Value} {ep : Nat} {hs : Int} {tk t : Tok} {ts ts' : List (Str × Str)} (e : ts' = ts) (a1 : h.get? x = some (pileO dx vs ep)) (a2 : h.get? dx = some (dictP hs tk t)) (a3 : PairsAt h vs ts) : PileAt h x dx ts' := by
  subst e
  exact ⟨vs, ep, hs, tk, t, a1, a2, a3⟩
theorem ints_rep {t : Tok} {m : Nat} : IntsAre (List.replicate m [Value.int 0 t]).flatten (List.replicate m 0) := by
  induction m with
  | zero => exact .nil
  | succ m ih => rw [List.replicate_succ, List.flatten_cons, List.replicate_succ]; exact .cons _ _ ih
end Mine
end
section
open PySem PySem.W PyProof.Rows PySem.Calls
set_option maxRecDepth 100000
set_option maxHeartbeats 8000000
set_option pp.deepTerms false
set_option pp.maxSteps 3000
set_option pp.proofs false
set_option linter.unusedVariables false
namespace Mine
theorem ne_of_data {h : Heap} {a b : Addr} {oa ob : Obj} (ea : h.get? a = some oa) (eb : h.get? b = some ob) (d : oa.data ≠ ob.data) : a ≠ b := fun q => by
  rw [q, eb] at ea
  injection ea with ea
  exact d (by rw [ea])
theorem ne_cell {h : Heap} {a b : Addr} {oa ob : Obj} {c : Option Value} (ea : h.get? a = some oa) (eb : h.get? b = some ob) (d : ob.data = .cell c) (k : ∀ c, oa.data ≠ .cell c) : a ≠ b := ne_of_data ea eb fun q => k c (q.trans d)
theorem off_cells {g h : Heap} {L a : Addr} {l : List (Addr × Obj)} {o : Obj} {c : Option Value} (N : News g L h l) (e : h.get? a = some o) (d : o.data = .cell c) (k : ∀ p ∈ l, (∀ c, p.2.data ≠ .cell c) ∨ p.1 ≠ a) : ∀ p ∈ l, p.1 ≠ a := fun p hp => by
  rcases k p hp with k | k
  · exact ne_cell (N p hp).1 e d k
  · exact k
theorem seq_nc {rest : List (Addr × Obj)} {a : Addr} (S : AllSeq rest) : ∀ p ∈ rest, (∀ c, p.2.data ≠ .cell c) ∨ p.1 ≠ a := fun p hp => .inl fun c w => by
  obtain ⟨_, r, e⟩ := S p hp
  rw [e] at w; cases w
end Mine
end
section
open PySem PySem.W PyProof.Rows PySem.Calls
set_option maxRecDepth 100000
set_option maxHeartbeats 8000000
set_option pp.deepTerms false
set_option pp.maxSteps 3000
set_option pp.proofs false
set_option linter.unusedVariables false
namespace Mine
theorem pack9 {g h : Heap} {L x aS aM : Addr} {m : Str → Option Value} {b st p wh k : Int} {f1 f2 f3 : UInt64} {tb ts tp tw t1 t2 t3 t4 : Tok} (F : Fr g L h m) (hb : m (Str.ofString "bright") = some (.int b tb)) (hs : m (Str.ofString "strong") = some (.int st ts)) (hp : m (Str.ofString "part") = some (.int p tp)) (hx : m (Str.ofString "pile") = some (.ref x))
    (hS : m (Str.ofString "sums") = some (.ref aS)) (hM : m (Str.ofString "marks") = some (.ref aM)) (hw : m (Str.ofString "whole") = some (.int wh tw)) (h1 : m (Str.ofString "hue") = some (.float f1 t1)) (h2 : m (Str.ofString "light") = some (.float f2 t2)) (h3 : m (Str.ofString "spread") = some (.float f3 t3)) (h4 : m (Str.ofString "told") = some (.int k t4)) :
    ∃ mm t1 t2 t3 t4, Fr g L h mm ∧ mm (Str.ofString "bright") = some (.int b tb) ∧ mm (Str.ofString "strong") = some (.int st ts) ∧ mm (Str.ofString "part") = some (.int p tp) ∧ mm (Str.ofString "pile") = some (.ref x) ∧ mm (Str.ofString "sums") = some (.ref aS) ∧ mm (Str.ofString "marks") = some (.ref aM) ∧ mm (Str.ofString "whole") = some (.int wh tw) ∧
      mm (Str.ofString "hue") = some (.float f1 t1) ∧ mm (Str.ofString "light") = some (.float f2 t2) ∧ mm (Str.ofString "spread") = some (.float f3 t3) ∧ mm (Str.ofString "told") = some (.int k t4) := ⟨m, t1, t2, t3, t4, F, hb, hs, hp, hx, hS, hM, hw, h1, h2, h3, h4⟩
end Mine
end
section
open PySem PySem.W PyProof.Rows PySem.Calls
set_option maxRecDepth 100000
set_option maxHeartbeats 8000000
set_option pp.deepTerms false
set_option pp.maxSteps 3000
set_option pp.proofs false
set_option linter.unusedVariables false
namespace Mine
theorem K_getitem {w p loose mean mg mb A s Q E h₀ a vs ns ka j t} : type_of% (c_getitem w p loose mean mg mb A s Q E h₀ a vs ns ka j t) := c_getitem w p loose mean mg mb A s Q E h₀ a vs ns ka j t
theorem K_setitem {w p loose mean mg mb A s Q E h₀ a vs ns ka j t x u} : type_of% (c_setitem w p loose mean mg mb A s Q E h₀ a vs ns ka j t x u) := c_setitem w p loose mean mg mb A s Q E h₀ a vs ns ka j t x u
end Mine
end
section
open PySem PySem.W PyProof.Rows PySem.Calls
set_option maxRecDepth 100000
set_option maxHeartbeats 8000000
set_option pp.deepTerms false
set_option pp.maxSteps 3000
set_option pp.proofs false
set_option linter.unusedVariables false
namespace Mine
theorem K_more {w p loose mean mg mb A s Q E h₀ x dx q0 rs0 m n tm tn} : type_of% (c_more w p loose mean mg mb A s Q E h₀ x dx q0 rs0 m n tm tn) := c_more w p loose mean mg mb A s Q E h₀ x dx q0 rs0 m n tm tn
theorem tup_ne_L {h : Heap} {L a : Addr} {m : Str → Option Value} {x y : Str} {t1 t2 : Tok} (n : h.Ns L m) (e : h.get? a = some (tup2 x y t1 t2)) : a ≠ L := fun q => by
  obtain ⟨o, es, ep, h1, h2, _⟩ := n
  rw [q, h1] at e
  injection e with e
  rw [e] at h2
  cases h2
end Mine
end
section
open PySem PySem.W PyProof.Rows PySem.Calls
set_option maxRecDepth 100000
set_option maxHeartbeats 8000000
set_option pp.deepTerms false
set_option pp.maxSteps 3000
set_option pp.proofs false
set_option linter.unusedVariables false
namespace Mine
theorem pairs_one {h : Heap} {c : Addr} {x y : Str} {t1 t2 : Tok} (e : h.get? c = some (tup2 x y t1 t2)) : PairsAt h [.ref c] [(x, y)] := ⟨rfl, fun j q er => by
  cases j with
  | zero => simp at er; subst er; exact ⟨c, t1, t2, rfl, e⟩
  | succ j => simp at er⟩
theorem PairsIn.mono {g : Heap} {r r' : List (Addr × Obj)} {vs : List Value} {ts : List (Str × Str)} (P : PairsIn g r vs ts) (s : ∀ p ∈ r, p ∈ r') : PairsIn g r' vs ts := ⟨P.1, fun j q e => by
  obtain ⟨a, t1, t2, e1, e2⟩ := P.2 j q e
  rcases e2 with e2 | e2
  · exact ⟨a, t1, t2, e1, .inl e2⟩
  · exact ⟨a, t1, t2, e1, .inr (s _ e2)⟩⟩
theorem pairs_rest2 {g h : Heap} {L : Addr} {mm : Str → Option Value} {vs vs2 : List Value} {ts ts2 : List (Str × Str)} (F : Fr g L h mm) (P : PairsAt h vs ts) (P2 : PairsAt h vs2 ts2) : ∃ rest, News g L h rest ∧ PairsIn g rest vs ts ∧ PairsIn g rest vs2 ts2 ∧ AllSeq rest := by
  obtain ⟨r1, N1, I1, S1⟩ := pairs_rest F P
  obtain ⟨r2, N2, I2, S2⟩ := pairs_rest F P2
  refine ⟨r1 ++ r2, news_app N1 N2, I1.mono fun p hp => List.mem_append_left _ hp, I2.mono fun p hp => List.mem_append_right _ hp, fun p hp => ?_⟩
  rcases List.mem_append.mp hp with hp | hp
  · exact S1 p hp
  · exact S2 p hp
theorem ends_tabs {h : Heap} {p84 p91 : Array Value} (e1 : h.get? 84 = some (tabObj p84)) (e2 : h.get? 91 = some (tabObj p91)) : GrownAll [(88, 84), (95, 91)] h := ⟨⟨_, e1⟩, ⟨_, e2⟩, trivial⟩
end Mine
end
section
open PySem PySem.W PyProof.Rows
set_option maxRecDepth 100000
set_option maxHeartbeats 8000000
namespace Mine
/-- what the head leaves to be walked -/
def askedOf {T H : Prop} (_ : T → H) : Prop := T
def TT : Prop := askedOf Mine.hd
/-- a stage of the walk: what is left behind it -/
structure Keep (P : Prop) : Prop where
  out : P
def mkS {stgA stgG : Prop} (stgF : Keep stgA → stgG) : {P : Prop // P → stgG} := ⟨stgA, fun h => stgF ⟨h⟩⟩
def mkS2 {stgA stgB stgG : Prop} (stgF : Keep stgA → Keep stgB → stgG) : {P : Prop × Prop // P.1 → P.2 → stgG} := ⟨(stgA, stgB), fun h k => stgF ⟨h⟩ ⟨k⟩⟩
def bothOf (_ : OpenLaw) (_ : Params → Frag) : Prop := True
end Mine
end
section
open PySem PySem.W PyProof.Rows
set_option maxRecDepth 100000
set_option maxHeartbeats 8000000
set_option pp.deepTerms false
set_option pp.maxSteps 3000
set_option pp.proofs false
set_option linter.unusedVariables false
set_option linter.unusedSimpArgs false
namespace Mine
@[irreducible] noncomputable def S0 : {P : Prop // P → TT} := by
  apply mkS
  case stgF =>
    intro hW
    w_top off
    have hfill : bothOf PySem.Challenge.rw_wu0023_01 Mine.frag.heap_1 := (by k_fill; trivial)
    clear hfill
    unfold TT askedOf
    intro w s₀ s₁ mg mb G Y fa o pm cd doc dV kV ho hd hcd hD hmg hg args vals as hpre hlay hrd hwl hlo
    have KX := km_in_of Y
    have hT8 := km_tabs_of Y
    have X := (Ground.X G).1
    have V := (Ground.X G).2
    refine Ground.open G ?_
    intro T B D TE TW
    try (refine guard_noD D (by decide +kernel) ?_; clear D)
    have hT9 : TabsAt ([(88, 84), (95, 91)] : List (Addr × Addr)) s₁.heap := List.forall_mem_cons.mpr ⟨⟨codeHd_of_K (c := 88) (P := 84) KX (by kernel_rfl), hT8 84 (by k_mem)⟩, List.forall_mem_cons.mpr ⟨⟨codeHd_of_K (c := 95) (P := 91) KX (by kernel_rfl), hT8 91 (by k_mem)⟩, fun _ h => nomatch h⟩⟩
    clear hmg
    wrow_args hpre hlay hrd hwl hlo
    all_goals (
      first | refine callC_kw (enter_call ?_) | refine enter_call ?_
      w_top on
      refine postB hT9 (fun _ _ => rfl) (postW_of (by wrow_shape) (by wtm_val) (by w_fin)) ?_
      w_call any ho hd hcd hD T F
      clear hd
      kn_ghosts F T
      k_drop
      try clear T
      try clear B
      try clear TE
      try clear TW
      try clear V
      try clear X
      try clear KX
      try clear hT8
      try clear hcd
      try clear hD
      try clear pm
      try clear doc
      try clear dV
      try clear kV
      skip)
    repeat (rename _ => x; revert x)
    exact Keep.out
end Mine
end
section
open PySem PySem.W PyProof.Rows PySem.Calls
set_option maxRecDepth 100000
set_option maxHeartbeats 8000000
set_option pp.deepTerms false
set_option pp.maxSteps 3000
set_option pp.proofs false
set_option linter.unusedVariables false
set_option linter.unusedSimpArgs false
namespace Mine
section
local macro_rules | `(tactic| walk_at $s:str) => if ["CompSrc", "exec Assign cons ListComp", "call builtin:sum"].contains s.getString then `(tactic| (refine halt ?_)) else Lean.Macro.throwUnsupported
local macro_rules | `(tactic| walk_at $_:str) => Lean.Macro.throwUnsupported
local macro_rules | `(tactic| walk_at $_:str) => Lean.Macro.throwUnsupported
@[irreducible] noncomputable def SL1 : {P : Prop // P → S0.1} := by
  apply mkS
  case stgF =>
    intro hW
    w_top off
    have hfill : bothOf PySem.Challenge.rw_wu0023_01 Mine.frag.heap_1 := (by k_fill; trivial)
    clear hfill
    with_unfolding_all intro _
    intros
    try k_fold
    rename_i o7 o6 o5 o4 o3 o2 o1 d7 d6 d5 d4 d3 d2 d1 X0 X T K9 F0 lifted C88 C95 N0 l0
    k_steps
    change wpAny _ _ _ _ _ _
    (with_reducible rename Fr _ _ _ _ => F1)
    (with_reducible rename News _ _ _ _ => N1)
    refine LCg.Assign_ListComp_U F1 rfl ?sw rfl (by decide) rfl (by decide) rfl rfl rfl ?_ (fun _ => rfl)
    case sw => with_unfolding_all rfl
    k_steps
    change LCg.CompSrc _ _ _ _ _ _ _ _ _ _ _ _ _ _
    (with_reducible rename Fr _ _ _ _ => F2)
    (with_reducible rename News _ _ _ _ => N2)
    (with_reducible rename IsRange _ _ _ _ _ _ _ _ => R2)
    (with_reducible rename IntsAre _ _ => hints)
    refine LCg.CompSrc.range (n := 7) rfl F2 N2 R2 (by decide) (by decide) (by decide) (fun h7 => ?_)
    refine compRest_same (fun i ys => ys.length = i ∧ ∀ v ∈ ys, ∃ n t, v = Value.int n t) 7 trivial ?fin ?step 7 0 [] rfl ⟨rfl, by simp⟩
    case step =>
      rintro i ys v I oI C oC D m₂ h tk E' hi ⟨hyl, hya⟩ ⟨t5, rfl⟩ hC hm F5 N5 off ne
      clear F2 N2
      have hi1 : (0 : Int) ≤ 0 + (i : Int) := by omega
      have hi2 : (0 : Int) + (i : Int) < 7 := by omega
      k_steps
      change wpAny _ _ _ _ _ _
      (with_reducible rename Fr _ _ _ _ => F6)
      (with_reducible rename News _ _ _ _ => N6)
      obtain ⟨zs, hzs⟩ := ints_pick hints (some (0 + (i : Int))) (some 63) (some 7)
      refine sum_lst rfl ⟨_, (N6 _ (.head _)).1, rfl, _, rfl⟩ hzs fun h' tk t hk => ?_
      have F7 := F6.keeps hk
      have N7 := News.grown N6 hk
      clear F6 N6
      k_steps
      refine TurnC.intro (by assumption) (by assumption) (fun p hp => List.mem_cons_of_mem _ hp) ⟨by simp [hyl], fun v hv => ?_⟩
      rcases List.mem_append.mp hv with hv | hv
      · exact hya v hv
      · exact ⟨_, _, List.mem_singleton.mp hv⟩
    clear F2 N2 R2
    (with_reducible rename Fr _ _ _ _ => F8)
    (with_reducible rename News _ _ _ _ => N8)
    clear F8 N8
    (with_reducible rename ReadsAllW _ _ _ _ _ _ => j1)
    (with_reducible rename Well _ _ _ _ => j2)
    (with_reducible rename Reads _ _ _ _ => j3)
    (with_reducible rename ReadsAll _ _ _ _ => j4)
    clear j1 j2 j3 j4
    rintro ys ⟨hyl, hya⟩
    obtain ⟨z0, z1, z2, z3, z4, z5, z6, t0, t1, t2, t3, t4, t5, t6, rfl⟩ := seven hyl hya
    intro D h tk F9 N9 off
    clear hyl hya
    dsimp only
    obtain ⟨c7, e7⟩ := cell_abs d7
    clear d7
    obtain ⟨c6, e6⟩ := cell_abs d6
    clear d6
    obtain ⟨c5, e5⟩ := cell_abs d5
    clear d5
    obtain ⟨c4, e4⟩ := cell_abs d4
    clear d4
    obtain ⟨c3, e3⟩ := cell_abs d3
    clear d3 d2 d1 X0
    simp only [LCg.Off1, and_true] at off
    have N := news_sub N9 (.cons₂ _ (.cons _ (.cons₂ _ (.cons₂ _ (.cons₂ _ (.cons₂ _ (.cons₂ _ (.cons _ (.cons _ (.refl _))))))))))
    clear N9
    obtain ⟨mm, F, em⟩ := fr_abs F9 (if_pos rfl)
    clear F9
    repeat (rename _ => x; revert x)
    exact Keep.out
end
section
local macro_rules | `(tactic| walk_at "eval Name") => `(tactic| (k_here; (with_reducible rename Fr _ _ _ _ => gF); refine' nameG_L ?k1 ?k2 ?_ ?k3 ?k4 ?k5 ?k6; (case k1 => exact gF); (case k3 => rfl); (case k4 => rfl); (case k5 => rfl); (case k6 => decide); (case k2 => first | assumption | (repeat (first | assumption | refine upd_ne (by decide) ?_)))))
section
local macro_rules | `(tactic| walk_at $s:str) => if ["exec Assign cons ListComp"].contains s.getString then `(tactic| (refine halt ?_)) else Lean.Macro.throwUnsupported
@[irreducible] noncomputable def SL2 : {P : Prop // P → SL1.1} := by
  apply mkS
  case stgF =>
    intro hW
    w_top off
    have hfill : bothOf PySem.Challenge.rw_wu0023_01 Mine.frag.heap_1 := (by k_fill; trivial)
    clear hfill
    with_unfolding_all intro _
    intros
    rename_i z0 z1 z2 z3 z4 z5 z6 t0 t1 t2 t3 t4 t5 t6 D h tk c7 e7 c6 e6 c5 e5 c4 e4 c3 e3 off N mm F em
    walk_at "execs cons"
    change wpAny _ _ (exec _ _) _ _ _
    refine' menu_cut ?n ?w ?k
    case n => exact N
    case w =>
      k_steps
      all_goals (first | (refine' MenuSt.mk 2 3 ?F ?N ?d3 ?d4 ?hm ?em ?sub; (case F => assumption); (case N => assumption); (case sub => (repeat (refine List.forall_mem_cons.mpr ⟨by k_mem, ?_⟩)); exact List.forall_mem_nil _); (case hm => decide); (case em => exact em); (case d3 => assumption); (case d4 => assumption)) | (refine' MenuSt.mk 3 2 ?F ?N ?d3 ?d4 ?hm ?em ?sub; (case F => assumption); (case N => assumption); (case sub => (repeat (refine List.forall_mem_cons.mpr ⟨by k_mem, ?_⟩)); exact List.forall_mem_nil _); (case hm => decide); (case em => exact em); (case d3 => assumption); (case d4 => assumption)) | (refine' MenuSt.mk 2 4 ?F ?N ?d3 ?d4 ?hm ?em ?sub; (case F => assumption); (case N => assumption); (case sub => (repeat (refine List.forall_mem_cons.mpr ⟨by k_mem, ?_⟩)); exact List.forall_mem_nil _); (case hm => decide); (case em => exact em); (case d3 => assumption); (case d4 => assumption)) | (refine' MenuSt.mk 4 2 ?F ?N ?d3 ?d4 ?hm ?em ?sub; (case F => assumption); (case N => assumption); (case sub => (repeat (refine List.forall_mem_cons.mpr ⟨by k_mem, ?_⟩)); exact List.forall_mem_nil _); (case hm => decide); (case em => exact em); (case d3 => assumption); (case d4 => assumption)) | (refine' MenuSt.mk 3 3 ?F ?N ?d3 ?d4 ?hm ?em ?sub; (case F => assumption); (case N => assumption); (case sub => (repeat (refine List.forall_mem_cons.mpr ⟨by k_mem, ?_⟩)); exact List.forall_mem_nil _); (case hm => decide); (case em => exact em); (case d3 => assumption); (case d4 => assumption)) | (refine' MenuSt.mk 5 2 ?F ?N ?d3 ?d4 ?hm ?em ?sub; (case F => assumption); (case N => assumption); (case sub => (repeat (refine List.forall_mem_cons.mpr ⟨by k_mem, ?_⟩)); exact List.forall_mem_nil _); (case hm => decide); (case em => exact em); (case d3 => assumption); (case d4 => assumption)))
    clear N F em e3 e4
    rintro fl s' ⟨h, tk, mm, o4, o3, m, n, t3, t4, rfl, rfl, hmn, F, em, d3, d4, N⟩
    dsimp only
    repeat (rename _ => x; revert x)
    exact Keep.out
end
section
local macro_rules | `(tactic| walk_at "call ref") => `(tactic| (k_here; (with_reducible show wpAny _ _ (PySem.call (Value.ref 35) _) _ _ _); (refine halt ?_)))
local macro_rules | `(tactic| walk_at $s:str) => if ["exec For Name Call cons nil", "CompSrc", "eval ListComp"].contains s.getString then `(tactic| (refine halt ?_)) else Lean.Macro.throwUnsupported
@[irreducible] noncomputable def SL3 : {P : Prop // P → SL2.1} := by
  apply mkS
  case stgF =>
    intro hW
    w_top off
    have hfill : bothOf PySem.Challenge.rw_wu0023_01 Mine.frag.heap_1 := (by k_fill; trivial)
    clear hfill
    with_unfolding_all intro _
    intros
    rename_i z0 z1 z2 z3 z4 z5 z6 t0 t1 t2 t3 t4 t5 t6 D h0 tk0 c7 e7 c6 e6 c5 e5 c4 c3 off mm0 h tk mm o4 o3 m n u3 u4 hmn F em d3 d4 N
    k_steps
    change wpAny _ _ _ _ _ _
    (with_reducible rename Fr _ _ _ _ => F1)
    (with_reducible rename News _ _ _ _ => N1)
    refine' LCg.ListComp_U ?F ?b ?c ?d ?e ?f ?_ ?i
    case F => exact F1
    case b => rfl
    case c => decide
    case d => rfl
    case e => decide
    case f => rfl
    case i => exact fun _ => rfl
    k_steps
    change LCg.CompSrc _ _ _ _ _ _ _ _ _ _ _ _ _ _
    (with_reducible rename Fr _ _ _ _ => F2)
    (with_reducible rename News _ _ _ _ => N2)
    rename_i D2 ws h2 hI hC hL l2
    dsimp only
    (with_reducible rename IntsAre ws _ => hI)
    have hn3 : 2 ≤ n ∧ n ≤ 4 := menu_n hmn
    have hlen : ws.length = n + 1 := by
      rw [ints_len hI]
      simp
      omega
    refine' LCg.CompSrc.ledger ?hh ?F ?N ?hm ?hsz ?h
    case hh => rfl
    case F => exact F2
    case N => exact N2
    case hm => exact .head _
    case hsz =>
      rw [List.size_toArray, hlen]
      show n + 1 ≤ 2 ^ 24
      omega
    intro g7
    refine' compRest_same (fun i ys => ∃ fs, IntsAre ys fs ∧ fs.length = i ∧ ∀ f ∈ fs, -1000 ≤ f ∧ f ≤ 1000) _ ?hS ?fin ?step _ 0 [] ?e0 ?e1
    case hS => exact .inr ⟨_, .head _, rfl, _, rfl⟩
    case e0 => exact Nat.zero_add _
    case e1 => exact ⟨[], .nil, rfl, fun f hf => nomatch hf⟩
    case step =>
      rintro i ys v I oI C oC D m₂ h tk E' hi ⟨fs, hfs, hfl, hfb⟩ hP hC hm F5 N5 off5 ne
      obtain ⟨x, tx, rfl⟩ : ∃ x t, v = Value.int x t := ints_all hI v (by rw [List.getElem?_toArray] at hP; exact List.mem_of_getElem? hP)
      clear F2 N2 hP
      dsimp only
      k_steps
      dsimp only
      refine' TurnC.intro ?F ?N ?sub ⟨_, ints_snoc hfs _ _, ?len, ?bnd⟩
      case F => assumption
      case N => assumption
      case sub => exact fun p hp => hp
      case len => rw [List.length_append, hfl]; rfl
      case bnd =>
        intro f hf
        rcases List.mem_append.mp hf with hf | hf
        · exact hfb f hf
        · rw [List.mem_singleton.mp hf]; exact fmod_2001 x
    rintro ys ⟨fs, hfs, hfl, hfb⟩
    rw [List.size_toArray, hlen] at hfl
    intro Df hf tkf Fa Na offa
    simp only [LCg.Off1, and_true] at offa
    have Nb := news_sub Na (.cons_cons _ (.cons _ (.refl _)))
    clear Na F2 N2 hI hC hL l2
    dsimp only
    have hb9 := fmod_3 ([z0, z1, z2, z3, z4, z5, z6].getD (Int.toNat 6) 0)
    have hs9 := fmod_2 (([z0, z1, z2, z3, z4, z5, z6].getD (Int.toNat 6) 0).fdiv 3)
    k_steps
    change wpAny _ _ _ _ _ _
    (with_reducible rename Fr _ _ _ _ => F2)
    (with_reducible rename News _ _ _ _ => N2)
    (with_reducible rename Frag.In _ _ => X2)
    (with_reducible rename Top _ _ _ _ _ _ => T2)
    refine' K_hls ?k1 ?k2 ?k3 ?k4 ?k5 ?k6
    case k1 => exact Frag.In.keeps X2 F2.keep
    case k2 => exact Top.keeps T2 F2.keep
    case k3 => rfl
    case k4 => simp only [depth_deeper]; decide
    case k5 => simp only [units_deeper]; decide
    intro a hr tkr t1' t2' t3' hk' ha' hb'
    have F3 := F2.keeps hk'
    have N3 := newsAdd F2 N2 hk' ha' hb'
    have hag : (ghostOf _ [(88, 84), (95, 91)]).get? a = none := (N3 _ (.head _)).2.2
    have hao := off1_of (newsNe N2 ha')
    simp only [LCg.Off1, and_true] at hao
    clear hk' F2 N2 ha' hb'
    dsimp only
    obtain ⟨b, hbe, hb1, hb2⟩ := nat_of (show 1 ≤ 1 + ([z0, z1, z2, z3, z4, z5, z6].getD (Int.toNat 6) 0).fmod 3 by omega) (show 1 + ([z0, z1, z2, z3, z4, z5, z6].getD (Int.toNat 6) 0).fmod 3 ≤ 3 by omega)
    obtain ⟨st, hse, hs1, hs2⟩ := nat_of (show 1 ≤ 1 + (([z0, z1, z2, z3, z4, z5, z6].getD (Int.toNat 6) 0).fdiv 3).fmod 2 by omega) (show 1 + (([z0, z1, z2, z3, z4, z5, z6].getD (Int.toNat 6) 0).fdiv 3).fmod 2 ≤ 2 by omega)
    rw [hbe, hse] at N3 F3
    clear hbe hse hb9 hs9
    have N4 : News _ _ hr ((a, tup3 (col0 b st).1 (col0 b st).2.1 (col0 b st).2.2 t1' t2' t3') :: _) := N3
    clear N3
    k_steps
    (with_reducible rename Fr _ _ _ _ => F5)
    (with_reducible rename News _ _ _ _ => N5)
    rename_i x4 x4' x2 x2' lr lh lr1 h5 o6 d6
    obtain ⟨mm5, tb, ts, tp, F6, eb, es, ep⟩ := fr_abs3 (x1 := Str.ofString "bright") (x2 := Str.ofString "strong") (x3 := Str.ofString "part") F5 rfl rfl rfl
    clear F5 em x4 x4' x2 x2'
    rename_i hq1 o5 d5 tkq tq1 hq2 tq2 hq3 hq4
    repeat (rename _ => x; revert x)
    exact Keep.out
end
section
local macro_rules | `(tactic| k_all) => `(tactic| assumption)
local macro_rules | `(tactic| k_ne) => `(tactic| (refine neN ?_; (try dsimp only); first | assumption | exact Ne.symm (by assumption) | exact Nat.ne_of_gt (by assumption) | exact Nat.ne_of_lt (by assumption) | (simp; done)))
section
local macro_rules | `(tactic| walk_at "call ref") => `(tactic| ((with_reducible show wpAny _ _ (PySem.call (Value.ref 161) _) _ _ _); (refine halt ?_)))
local macro_rules | `(tactic| walk_at $s:str) => if ["binaryOp Add ref ref", "eval ListComp", "exec For Name Call cons nil", "pyIter ref"].contains s.getString then `(tactic| (refine halt ?_)) else Lean.Macro.throwUnsupported
local macro_rules | `(tactic| walk_at $_:str) => Lean.Macro.throwUnsupported
local macro_rules | `(tactic| walk_at $_:str) => Lean.Macro.throwUnsupported
@[irreducible] noncomputable def SL4 : {P : Prop // P → SL3.1} := by
  apply mkS
  case stgF =>
    intro hW
    w_top off
    have hfill : bothOf PySem.Challenge.rw_wu0023_01 Mine.frag.heap_1 := (by k_fill; trivial)
    clear hfill
    with_unfolding_all intro _
    intros
    rename_i o7 o6x1 o5x1 o4x1 o3x1 o2 o1 X2 T2 K9 lifted C88 C95 l0 l' hx2 l1 hx1 o' d' tkx3 h' tkx2 t₁ u₁ v₁ ax1 h7 z0 z1 z2 z3 z4 z5 z6 t0 t1 t2 t3 t4 t5 t6 D h0 tk0 c7 e7 c6 e6 c5 e5 c4 c3 off mm0 h tkx1 mm o4 o3 m n u3 u4 hmn d3 d4 D2 ws h2 hn3 hlen g7 ys fs hfs hfl hfb Df hf tkf offa hq1 o5 d5 tkq tq1 hq2 tq2 hq3 hq4 a hr tkr t1' t2' t3' hag hao b hb1 hb2 st hs1 hs2 lr lh lr1 h5 o6 N5 d6 tk mm5 tb ts tp F6 eb es ep
    have R0 : RowG _ h5 [.ref a] (rowsP m b st 0) := tup_rowG (N5 _ (.tail _ (.head _))).1 hag
    have N6 := news_sub N5 (.cons_cons _ (.cons _ (.refl _)))
    clear N5
    change wpAny _ _ _ _ _ _
    refine wpAny_For ?_ (by intro _; rfl)
    k_steps
    change wpAny _ _ _ _ _ _
    (with_reducible rename Fr _ _ _ _ => Fa)
    (with_reducible rename News _ _ _ _ => Na)
    (with_reducible rename IsRange _ _ _ _ _ _ _ _ => Ra)
    have Nb := news_mem (l' := (lr, W.listOf (List.toArray [Value.ref a]) 0) :: (_, o6) :: [(Df, LCg.lst ys), (_, o7), (_, o5), (_, o4), (_, o3), (84, tabObj #[]), (91, tabObj #[])]) Na (by
      (repeat (refine List.forall_mem_cons.mpr ⟨by k_mem, ?_⟩)); exact List.forall_mem_nil _)
    clear Na
    refine' rows_for ?hh ?hr ?hc ?F ?N ?eb ?es ?ep ?d6 ?off ?R0 ?hnf ?step ?done ?ht
    case hh => rfl
    case F => exact Fa
    case N => exact Nb
    case hr => exact Ra
    case hc => omega
    case eb => exact eb
    case es => exact es
    case ep => exact ep
    case d6 => exact d6
    case off =>
      simp only [LCg.Off1, and_true]
      try dsimp only
      omega
    case R0 => rename ∀ (b : Addr) (o : Obj), Heap.get? _ b = some o → Heap.get? _ b = some o => ka; exact R0.keeps fun b o _ _ _ e => ka b o e
    case hnf =>
      intro p hp
      simp only [List.mem_cons, List.mem_nil_iff, or_false] at hp
      rcases hp with rfl | rfl | rfl | rfl | rfl | rfl | rfl
      · exact .inr fun fs w => by cases w
      · exact cell_nf e7
      · exact cell_nf d5
      · exact cell_nf d4
      · exact cell_nf d3
      · exact .inl (by intro w; cases w)
      · exact .inl (by intro w; cases w)
    case ht => exact fun _ _ => rfl
    case step =>
      intro I i s' oI t' hi hJ hLI hgI hlt hI hIc
      obtain ⟨h, tkj, mmj, o6j, lj, zs, kj, rfl, Fj, ebj, esj, epj, d6j, offj, Nj, Rj⟩ := hJ
      simp only [LCg.Off1, and_true] at offj
      obtain ⟨oj1, oj2, oj3, oj4, oj5, oj6, oj7, oj8⟩ := offj
      clear Fa Nb Ra d6
      obtain ⟨rest, Nr, Ri, Sr⟩ := row_rest Rj Fj.ns
      have hr6 := off_rest Nr Sr (Nj _ (.tail _ (.head _))).1 (.inr (fun r w => by dsimp only at w; rw [d6j] at w; cases w))
      have hIl : lj ≠ I := fun q => by
        have e := (Nj _ (.head _)).1
        dsimp only at e hI
        rw [q, hI] at e
        injection e with e
        rw [e] at hIc
        injection hIc with hIc
        exact absurd hIc (by decide)
      have Nk := news_cons (p := (I, oI)) ⟨hI, Nat.ne_of_gt hLI, hgI⟩ (news_app Nj Nr)
      simp only [List.cons_append, List.nil_append] at Nk
      have hI6 := hlt _ (.head _)
      have hIf := hlt _ (.tail _ (.head _))
      have hI7 := hlt _ (.tail _ (.tail _ (.head _)))
      clear Nj Nr Rj hlt
      try dsimp only at hLI hgI Nk hI hr6 hI6 hIf hI7
      k_steps
      change wpAny _ _ _ _ _ _
      (with_reducible rename Fr _ _ _ _ => F7)
      (with_reducible rename News _ _ _ _ => N7)
      have R7 := row_of (news_mem N7 (fun p hp => by repeat (first | exact hp | apply List.Mem.tail))) Ri
      have hm2 := menu_m hmn
      have h84 : (84 : Nat) < _ := Nat.lt_of_lt_of_le l0.1 (Nat.le_add_right _ 6)
      have h91 : (91 : Nat) < _ := Nat.lt_of_lt_of_le l0.2 (Nat.le_add_right _ 6)
      obtain ⟨m1, rfl⟩ : ∃ m1, m = m1 + 1 := ⟨m - 1, by omega⟩
      dsimp only
      refine' comp2 ?hh ?clos ?cell ?kind ?names ?hx1 ?hx2 ?h12 ?hs1 ?hs2 ?h
      case hh => rfl
      case clos => rfl
      case cell => decide
      case kind => rfl
      case names => decide
      case hx1 => rfl
      case hx2 => rfl
      case h12 => decide
      case hs1 => exact fun _ => rfl
      case hs2 => exact fun _ _ => rfl
      refine' range_cut 1 ((m1 + 1 : Nat) : Int) ?F ?N ?w ?k
      case F => exact F7
      case N => exact N7
      case w =>
        k_steps
        refine' EndR.mk ?R ?F ?N ?sub
        case R => assumption
        case F => assumption
        case N => assumption
        case sub => exact fun p hp => hp
      rintro xv s₁ ⟨r, h9, tk9, t, u, v, rfl, rfl, hR, F9, N9⟩
      clear F7 N7
      rw [show ((m1 + 1 : Nat) : Int) = (m1 : Int) + 1 by omega] at hR
      have Rz := row_of (news_mem N9 (fun p hp => by repeat (first | exact hp | apply List.Mem.tail))) Ri
      obtain ⟨hlen9, hok9⟩ := rows_ok hmn hb1 (by omega) hs1 (by omega) (i := i) (by omega)
      have hpow9 := menu_pow hmn (i := i) (by omega)
      dsimp only
      refine ⟨r, m1, t, u, v, lj, zs, rowsP (m1 + 1) b st i, turnF (m1 + 1), rfl, hR, by omega, ⟨_, (N9 _ (.tail _ (.head _))).1, rfl, _, rfl⟩, Rz.1, ?sz, ?it2, ?elt, ?fin⟩
      case sz =>
        rw [hlen9]
        have := Nat.mul_le_mul hm2.2 hpow9
        omega
      case it2 =>
        intro C h' tk' Q' E' hk hq
        have F10 := F9.keeps hk
        have N10 := News.grown N9 hk
        clear F9 N9
        k_steps
        exact hq
      case elt =>
        intro j c C h' tk' mm' ac v1 v2 v3 tk1 E' hj hc hav hk hns hCs hx1 hx2 hac
        have F10 := F9.keeps hk
        have N10 := News.grown N9 hk
        obtain ⟨oC, eC, hoC⟩ := LCg.ns_obj hns
        obtain ⟨ac', hac', hgc⟩ := Rz.2 _ hav
        injection hac' with hac'
        subst hac'
        have hCL : C ≠ _ := Nat.ne_of_gt (Nat.lt_of_lt_of_le F9.ns.lt hCs)
        have N11 := news_cons (p := (C, oC)) ⟨eC, hCL, Heap.get?_none_of_le (Nat.le_trans F9.above (Nat.le_trans (Nat.le_of_lt F9.ns.lt) hCs))⟩ N10
        clear F9 N9 N10
        k_steps
        change wpAny _ _ _ _ _ _
        (with_reducible rename Fr _ _ _ _ => F12)
        refine' K_turned (q := c) ?X ?T ?k0 ?c0 ?hc ?ok ?p1 ?p2 ?p3 ?p4 ?A0 ?d ?u ?ret
        case X => exact X2
        case T => exact T2
        case k0 => exact F12.keep
        case c0 => exact hgc
        case hc => exact hac
        case ok => exact hok9 c hc
        case p1 => omega
        case p2 => omega
        case p3 => omega
        case p4 => omega
        case A0 => rfl
        case d => simp only [depth_deeper]; decide
        case u => simp only [units_deeper]; decide
        intro a2 h2' tk2' w1 w2 w3 hk2 hn2 hb2
        exact ⟨h2', tk2', a2, w1, w2, w3, rfl, hk2, rfl, hn2, hb2⟩
      case fin =>
        intro D8 h8 tk8 ys8 hk hD0 hD hR8 hN8
        have F13 := F9.keeps hk
        have N13 := newsAdd F9 N9 hk hD0 hD
        have hDo := off1_of (newsNe N9 hD0)
        simp only [LCg.Off1, and_true] at hDo
        have Rsum : RowG _ h8 (zs ++ ys8) (rowsP (m1 + 1) b st (i + 1)) := (Rz.keeps fun b o r _ _ e => hk b o e).append ⟨hR8, newAll_sub F9.keep hN8⟩
        clear F9 N9 Rz hR8 hN8
        obtain ⟨rest2, Nr2, Ri2, Sr2⟩ := row_rest Rsum F13.ns
        have hr6 := off_rest Nr2 Sr2 (N13 _ (.tail _ (.tail _ (.tail _ (.head _))))).1 (.inr (fun r w => by dsimp only at w; rw [d6j] at w; cases w))
        have N14 := news_retail (l := [_, _, _, _, _, _, _, _, _, _, _]) N13 Nr2
        simp only [List.cons_append, List.nil_append] at N14
        clear N13 Nr2 Rsum
        dsimp only at hr6
        k_steps
        change wpAny _ _ _ _ _ _
        (with_reducible rename Fr _ _ _ _ => F15)
        (with_reducible rename News _ _ _ _ => N15)
        refine' kmk_add_lit (zs := zs ++ ys8) ?aF ?aN ?aa ?ab ?ae ?_ ?az
        case aF => exact F15
        case aN => exact N15
        case aa => exact ⟨_, (N15 _ (.tail _ (.tail _ (.head _)))).1, rfl, _, rfl⟩
        case ab => exact ⟨_, (N15 _ (.head _)).1, rfl, _, rfl⟩
        case ae => rfl
        case az =>
          have e1 : zs.length = _ := Ri.1
          have e2 := Ri2.1
          obtain ⟨hl2, _⟩ := rows_ok hmn hb1 (by omega) hs1 (by omega) (i := i + 1) (by omega)
          have hp2 := menu_pow hmn (i := i + 1) (by omega)
          rw [List.length_append, hl2] at e2
          show zs.length + ys8.length ≤ 2 ^ 24
          omega
        intro D9 h9' F16 N16 l1
        k_lt l1
        obtain ⟨l1a, l1b, l1c, l1d, l1e, l1f, l1g, l1h, l1i, l1j, l1k, -⟩ := l1
        obtain ⟨hDa, hDb, hDc, hDd, hDe, hDf, hDg, hDh, hDi, hDj, -⟩ := hDo
        clear F15 N15
        dsimp only
        change wpAny _ _ _ _ _ _
        refine' storeX_C ?sF ?sN ?sc ?sU ?sd ?_ ?sa ?sb
        case sa => rfl
        case sb => rfl
        case sF => exact F16
        case sN => exact N16
        case sc => rfl
        case sU => k_updF
        case sd => exact d6j
        intro h10 o10 F17 N17 d10
        clear F16 N16
        dsimp only at N17 ⊢
        k_steps
        show TurnEnd _ _ _ _ _
        refine ⟨RI.mk (k := 0) F17 N17 (upd_ne (by decide) ebj) (upd_ne (by decide) esj) (upd_ne (by decide) epj) d10 ?oo ?ss (row_of (news_mem N17 (fun p hp => by repeat (first | exact hp | apply List.Mem.tail))) Ri2), (N17 _ (.tail _ (.tail _ (.head _)))).1⟩
        case oo =>
          simp only [LCg.Off1, and_true]
          exact ⟨Nat.ne_of_lt l1d, Nat.ne_of_lt l1e, Nat.ne_of_lt l1f, Nat.ne_of_lt l1g, Nat.ne_of_lt l1h, Nat.ne_of_lt l1i, Nat.ne_of_lt l1j, Nat.ne_of_lt l1k⟩
        case ss => (repeat (refine List.forall_mem_cons.mpr ⟨by k_mem, ?_⟩)); exact List.forall_mem_nil _
    rintro s' ⟨h, tkj, mmj, o6j, lj, zs, kj, rfl, Fj, ebj, esj, epj, d6j, offj, Nj, Rj⟩
    clear Fa Nb Ra d6 R0
    dsimp only
    repeat (rename _ => x; revert x)
    exact Keep.out
end
section
local macro_rules | `(tactic| k_inst) => `(tactic| (refine' pileInst ?N ?h1 ?h2; (case N => k_asm); (case h1 => k_mem); (case h2 => k_mem)))
local macro_rules | `(tactic| walk_at "getMethod ref") => `(tactic| (k_here; k_dflt (first
  | (refine' method_fnK ?k1 ?k2 ?k3 ?k5 ?k6 ?k7 ?_; (case k1 => k_asm); (case k2 => k_asm); (case k3 => k_inst); (case k5 => k_is); (case k6 => k_is); (case k7 => k_get); k_whole))))
local macro_rules | `(tactic| walk_at "call ref") => `(tactic| (first | ((with_reducible show wpAny _ _ (PySem.call (Value.ref 66) _) _ _ _); (refine halt ?_)) | ((with_reducible show wpAny _ _ (PySem.call (Value.ref 122) _) _ _ _); (refine halt ?_))))
local macro_rules | `(tactic| walk_at $s:str) => if ["exec For Name Call cons nil", "pyIter ref"].contains s.getString then `(tactic| (refine halt ?_)) else Lean.Macro.throwUnsupported
@[irreducible] noncomputable def SL5 : {P : Prop // P → SL4.1} := by
  apply mkS
  case stgF =>
    intro hW
    w_top off
    have hfill : bothOf PySem.Challenge.rw_wu0023_01 Mine.frag.heap_1 := (by k_fill; trivial)
    clear hfill
    with_unfolding_all intro _
    intros
    rename_i o7 o6x1 o5x1 o4x1 o3x1 o2 o1 X2 T2 K9 lifted C88 C95 l0 l' hx2x1 l1 hx1x1 o' d' tkx3 hx2 tkx2 t₁x1 u₁x1 v₁x1 ax1x1 h7 z0 z1 z2 z3 z4 z5 z6 t0 t1 t2 t3 t4 t5 t6 D h0 tk0 c7 e7 c6 e6 c5 e5 c4 c3 off mm0 hx1 tkx1x1 mm o4 o3 m n u3 u4 hmn d3 d4 D2 ws h2 hn3 hlen g7 ys fs hfs hfl hfb Df hf tkf offa hq1 o5 d5 tkq tq1 hq2 tq2 hq3 hq4 ax1 hr tkr t1' t2' t3' hag hao b hb1 hb2 st hs1 hs2 lr lh lr1 h5 o6 tkx1 mm5 tb ts tp F' eb es ep N' h' tk t₁ u₁ v₁ a h tkj mmj o6j lj zs kj Fj ebj esj epj d6j offj Nj Rj
    simp only [LCg.Off1, and_true] at offj
    obtain ⟨oj1, oj2, oj3, oj4, oj5, oj6, oj7, oj8⟩ := offj
    obtain ⟨rest, Nr, Ri, Sr⟩ := row_rest Rj Fj.ns
    have Nk := news_app Nj Nr
    simp only [List.cons_append, List.nil_append] at Nk
    clear Nj Nr Rj F' N'
    k_steps
    change wpAny _ _ _ _ _ _
    (with_reducible rename Fr _ _ _ _ => F2)
    (with_reducible rename News _ _ _ _ => N2)
    dsimp only
    refine' K_make ?mX ?mT ?mA ?md ?mu ?_
    case mX => exact X2.keeps F2.keep
    case mT => exact Top.keeps T2 F2.keep
    case mA => rfl
    case md => simp only [depth_deeper]; decide
    case mu => simp only [units_deeper]; decide
    intro hp tkp x dx hsp tkp2 tpp hkp hx0 hd0 hxd hx hdx
    have F3 := F2.keeps hkp
    have N3 := newsAdd F2 N2 hkp hd0 hdx
    have hxo := off1_of (newsNe N2 hx0)
    have hdo := off1_of (newsNe N2 hd0)
    have hxL := fresh_L F2.ns hx0
    have hdL := fresh_L F2.ns hd0
    have hxg := none_of F2.keep hx0
    have hdg := none_of F2.keep hd0
    have hxN := newsNe N2 hx0
    have hdN := newsNe N2 hd0
    have N4 := news_cons (p := (x, pileO dx [] 0)) ⟨hx, hxL, hxg⟩ N3
    simp only [LCg.Off1, and_true] at hxo hdo
    obtain ⟨xn1, xn2, xn3, xn4, xn5, xn6, xn7, xn8, xn9, xn10⟩ := hxo
    obtain ⟨dn1, dn2, dn3, dn4, dn5, dn6, dn7, dn8, dn9, dn10⟩ := hdo
    clear F2 N2 N3 hkp
    dsimp only
    change wpAny _ _ _ _ _ _
    k_steps
    change wpAny _ _ _ _ _ _
    refine wpAny_For ?_ (by intro _; rfl)
    k_steps
    change wpAny _ _ _ _ _ _
    (with_reducible rename Fr _ _ _ _ => Fa)
    (with_reducible rename News _ _ _ _ => Na)
    (with_reducible rename IsRange _ _ _ _ _ _ _ _ => Ra)
    have Nb := news_mem Na (fun p hp => .tail _ (.tail _ hp))
    refine' push_for ?fA ?fr ?fc ?fF ?fN ?fC ?fP ?fn ?fs ?fd ?ft
    case fA => rfl
    case fF => exact Fa
    case fN => exact Nb
    case fr => exact Ra
    case fc => omega
    case fC => exact ⟨upd_ne (by decide) ebj, upd_ne (by decide) esj, upd_ne (by decide) epj, upd_eq rfl⟩
    case fP => exact ⟨[], 0, _, _, _, (Na _ (.head _)).1, (Na _ (.tail _ (.head _))).1, rfl, fun j r e => by simp at e⟩
    case fn =>
      refine List.forall_mem_cons.mpr ⟨.inr (fun fs w => by cases w), List.forall_mem_cons.mpr ⟨cell_nf d6j, List.forall_mem_cons.mpr ⟨.inr (fun fs w => by cases w), List.forall_mem_cons.mpr ⟨cell_nf e7, List.forall_mem_cons.mpr ⟨cell_nf d5, List.forall_mem_cons.mpr ⟨cell_nf d4, List.forall_mem_cons.mpr ⟨cell_nf d3, List.forall_mem_cons.mpr ⟨.inl (by intro w; cases w), List.forall_mem_cons.mpr ⟨.inl (by intro w; cases w), seq_nf Sr⟩⟩⟩⟩⟩⟩⟩⟩⟩
    case ft => exact fun _ _ => rfl
    case fs =>
      intro I i s' oI t' hi hJ hLI hgI hI hIc
      obtain ⟨h, tkj, mmk, rfl, F6, C6, N6, ⟨vs6, ep6, hs6, tk66, t6, a1, a2, a3⟩⟩ := hJ
      clear Fa Na Nb Ra
      dsimp only at hI
      refine wpAny_assign_Name (wpAny_storeName_local rfl F6.ns (fun h8 hn8 hs8 => ?_) rfl)
      have F8 : Fr _ _ h8 _ := ⟨hn8, fun b o e => hs8.extBut b o (Nat.ne_of_lt (Nat.lt_of_lt_of_le (Heap.lt_size e) F6.above)) (F6.keep b o e), F6.above⟩
      have x8 := hs8.extBut _ _ hxL a1
      have d8 := hs8.extBut _ _ hdL a2
      have I8 := hs8.extBut _ _ (Nat.ne_of_gt hLI) hI
      have p8 := pairs_frame a3 F6.ns (fun b o hb e => hs8.extBut b o hb e)
      have N7 : News _ _ h8 _ := fun p hp => ⟨hs8.extBut _ _ (N6 p hp).2.1 (N6 p hp).1, (N6 p hp).2⟩
      have N8 := news_cons (p := (x, pileO dx vs6 ep6)) ⟨x8, hxL, hxg⟩ (news_cons (p := (dx, dictP hs6 tk66 t6)) ⟨d8, hdL, hdg⟩ N7)
      have hIx := ne_iter hI a1 (by rw [hIc]; intro c; cases c)
      obtain ⟨c1, c2, c3, c4⟩ := C6
      clear F6 N6 N7
      k_steps
      change wpAny _ _ _ _ _ _
      (with_reducible rename Fr _ _ _ _ => F9)
      (with_reducible rename News _ _ _ _ => N9)
      try dsimp only
      refine' K_pushP ?pX ?pT ?pk ?px ?pd ?pn ?pP ?pl ?pA ?pde ?pu ?_
      case pX => exact X2
      case pT => exact T2
      case pk => exact F9.keep
      case px => exact hxg
      case pd => exact hdg
      case pn => exact hxd
      case pP => exact ⟨vs6, ep6, _, _, _, x8, d8, p8⟩
      case pl => simp; omega
      case pA => rfl
      case pde => simp only [depth_deeper]; decide
      case pu => simp only [units_deeper]; decide
      intro h' tk' hk' P'
      have F10 := fr_x F9 hk' hxg (Ne.symm hxL)
      have N10 := news_off (news_mem N9 (fun p hp => .tail _ (.tail _ hp))) hk' hxN
      have I10 := hk' _ _ hIx I8
      clear F9 N9
      try dsimp only
      change wpAny _ _ _ _ _ _
      k_steps
      show TurnEnd _ _ _ _ _
      exact ⟨⟨h', _, _, rfl, F10, ⟨upd_ne (by decide) c1, upd_ne (by decide) c2, upd_ne (by decide) c3, upd_ne (by decide) c4⟩, N10, by rw [List.replicate_succ']; exact P'⟩, I10⟩
    rintro s' ⟨h, tkj, mmk, rfl, F6, C6, N6, P6⟩
    clear Fa Na Nb Ra
    dsimp only
    repeat (rename _ => x; revert x)
    exact Keep.out
end
section
local macro_rules | `(tactic| walk_at $s:str) => if ["exec For Name Call cons nil", "pyIter ref", "binaryOp Mult ref int", "call builtin:len"].contains s.getString then `(tactic| (refine halt ?_)) else Lean.Macro.throwUnsupported
@[irreducible] noncomputable def SL6 : {P : Prop // P → SL5.1} := by
  apply mkS
  case stgF =>
    intro hW
    w_top off
    have hfill : bothOf PySem.Challenge.rw_wu0023_01 Mine.frag.heap_1 := (by k_fill; trivial)
    clear hfill
    with_unfolding_all intro _
    intros
    rename_i o7 o6x1 o5x1 o4x1 o3x1 o2 o1 X2 T2 K9 lifted C88 C95 l0 l' hx2x1x1 l1 hx1x1x1 o' d' tkx3 hx2x1 tkx2x1 t₁x1x1 u₁x1x1 v₁x1x1 ax1x1x1 h7 z0 z1 z2 z3 z4 z5 z6 t0 t1 t2 t3 t4 t5 t6 D h0 tk0 c7 e7 c6 e6 c5 e5 c4 c3 off mm0 hx1x1 tkx1x1x1 mm o4 o3 m n u3 u4 hmn d3 d4 D2 ws h2 hn3 hlen g7 ys fs hfs hfl hfb Df hf tkf offa hq1 o5 d5 tkq tq1 hq2 tq2 hq3 hq4 ax1x1 hr tkr t1' t2' t3' hag hao b hb1 hb2 st hs1 hs2 lr lh lr1 h5 o6 tkx1x1 mm5 tb ts tp eb es ep hx3 tkx2 t₁x1 u₁x1 v₁x1 ax1 hx2 tkjx1 mmj o6j lj zs kj ebj esj epj d6j oj1 oj2 oj3 oj4 oj5 oj6 oj7 oj8 rest Ri Sr hp tkp x dx hsp tkp2 tpp hx0 hd0 hxd hx hdx hxL hdL hxg hdg hxN hdN xn1 xn2 xn3 xn4 xn5 xn6 xn7 xn8 xn9 xn10 dn1 dn2 dn3 dn4 dn5 dn6 dn7 dn8 dn9 dn10 hx1 F' N' tkx1 h' tk t₁ u₁ v₁ a h tkj mmk F6 C6 N6 P6
    obtain ⟨c1, c2, c3, c4⟩ := C6
    obtain ⟨vsP, epP, hsP, tkP, tP, aP1, aP2, aP3⟩ := P6
    obtain ⟨rp, Nrp, PIn, SrP⟩ := pairs_rest F6 aP3
    have N7 := news_cons (p := (x, pileO dx vsP epP)) ⟨aP1, hxL, hxg⟩ (news_cons (p := (dx, dictP hsP tkP tP)) ⟨aP2, hdL, hdg⟩ (news_app N6 Nrp))
    simp only [List.cons_append, List.nil_append] at N7
    clear N6 Nrp aP1 aP2 aP3
    have hlz : zs.length = m ^ n := by
      rw [Ri.1]
      exact (rows_ok hmn hb1 (by omega) hs1 (by omega) (Nat.le_refl n)).1
    have hpw := menu_pow hmn (Nat.le_refl n)
    have hm2 := menu_m hmn
    clear off offa hao oj1 oj2 oj3 oj4 oj5 oj6 oj7 oj8 xn1 xn2 xn3 xn4 xn5 xn6 xn7 xn8 xn9 xn10 dn1 dn2 dn3 dn4 dn5 dn6 dn7 dn8 dn9 dn10
    k_steps
    change wpAny _ _ _ _ _ _
    (with_reducible rename Fr _ _ _ _ => F8)
    (with_reducible rename News _ _ _ _ => N8)
    refine' KM.mul (ns := [0]) ?gF ?gN ?gl ?gi ?glo ?ghi ?gz ?_
    case gF => exact F8
    case gN => exact N8
    case gl => exact ⟨_, (N8 _ (.head _)).1, rfl, _, rfl⟩
    case gi => exact .cons _ _ .nil
    case glo => omega
    case ghi => omega
    case gz => simp; omega
    intro aS hS F9 N9 lS iS _ _ _ _ _
    k_lt lS
    clear F8 N8
    dsimp only
    change wpAny _ _ _ _ _ _
    k_steps
    change wpAny _ _ _ _ _ _
    (with_reducible rename Fr _ _ _ _ => F8)
    (with_reducible rename News _ _ _ _ => N8)
    refine' KM.mul (ns := [0]) ?jF ?jN ?jl ?ji ?jlo ?jhi ?jz ?_
    case jF => exact F8
    case jN => exact N8
    case jl => exact ⟨_, (N8 _ (.head _)).1, rfl, _, rfl⟩
    case ji => exact .cons _ _ .nil
    case jlo => omega
    case jhi => omega
    case jz => simp; omega
    intro aM hM F9 N9 lM iM _ _ _ _ _
    k_lt lM
    clear F8 N8
    dsimp only
    change wpAny _ _ _ _ _ _
    k_steps
    change wpAny _ _ _ _ _ _
    refine wpAny_For ?_ (by intro _; rfl)
    k_steps
    change wpAny _ _ _ _ _ _
    (with_reducible rename Fr _ _ _ _ => F8)
    (with_reducible rename News _ _ _ _ => N8)
    refine' len_is (k := m ^ n) ?lL ?lE ?lK ?_
    case lL => exact ⟨_, (N8 _ (.tail _ (.tail _ (.tail _ (.tail _ (.tail _ (.tail _ (.head _)))))))).1, rfl, _, rfl⟩
    case lE => rw [List.size_toArray]; exact hlz
    case lK => omega
    dsimp only
    change wpAny _ _ _ _ _ _
    k_steps
    change wpAny _ _ _ _ _ _
    (with_reducible rename Fr _ _ _ _ => F8)
    (with_reducible rename News _ _ _ _ => N8)
    (with_reducible rename IsRange _ _ _ _ _ _ _ _ => R8)
    (with_reducible rename @Eq (Array GenState) _ _ => hgens)
    have hpos : 0 < m ^ n := Nat.pow_pos (by omega)
    have Px := pile_mk (ts_start hmn) (N8 (x, pileO dx vsP epP) (.tail _ (.tail _ (.tail _ (.tail _ (.head _)))))).1 (N8 (dx, dictP hsP tkP tP) (.tail _ (.tail _ (.tail _ (.tail _ (.tail _ (.head _))))))).1 (pairs_of F8 (news_mem N8 (fun p hp => by repeat (first | exact List.mem_append_right _ hp | apply List.Mem.tail))) PIn)
    have N9 := news_mem (l' := (aS, W.listOf (List.toArray _) 0) :: (aM, W.listOf (List.toArray _) 0) :: (_, o7) :: (84, tabObj #[]) :: (91, tabObj #[]) :: (lj, W.listOf zs.toArray kj) :: (_, o6j) :: (Df, LCg.lst ys) :: (_, o5) :: (_, o4) :: (_, o3) :: rest) N8 (by
      (repeat (refine List.forall_mem_cons.mpr ⟨by k_mem, ?_⟩))
      exact fun p hp => by repeat (first | exact List.mem_append_left _ hp | apply List.Mem.tail))
    refine' main_for (m := m) (n := n) (fs := fs) ?qA ?qr ?qc ?qS ?qL ?qg ?qn ?qs ?qt
    case qA => rfl
    case qr => exact R8
    case qc => omega
    case qS => exact ⟨_, _, 0, _, 0, _, _, o7, _, #[], #[], F8, ⟨c1, c2, c3, c4⟩, rfl, rfl, rfl, rfl, e7, N9, ints_rep, ints_rep, tabOk_nil _, tabOk_nil _, Px, (by intro y hy; dsimp only at hy; rw [hgens] at hy; simp at hy), rfl, fun h => absurd h (Nat.ne_of_lt hpos)⟩
    case qL => exact F8.ns.lt
    case qg => exact Heap.get?_none_of_le (Nat.le_trans F8.above (Nat.le_of_lt F8.ns.lt))
    case qn => exact List.forall_mem_cons.mpr ⟨.inr (fun fs w => by cases w), List.forall_mem_cons.mpr ⟨cell_nf d6j, List.forall_mem_cons.mpr ⟨.inr (fun fs w => by cases w), List.forall_mem_cons.mpr ⟨cell_nf d5, List.forall_mem_cons.mpr ⟨cell_nf d4, List.forall_mem_cons.mpr ⟨cell_nf d3, seq_nf Sr⟩⟩⟩⟩⟩⟩
    case qt => exact fun _ _ => rfl
    clear F8 N8 N9 R8 Px
    (with_reducible rename Fr _ _ _ _ => Fz)
    (with_reducible rename News _ _ _ _ => Nz)
    clear Fz Nz
    try dsimp only
    repeat (rename _ => x; revert x)
    exact Keep.out
end
section
local macro_rules | `(tactic| walk_at $s:str) => if ["binaryOp Pow int int", "binaryOp FloorDiv int int", "binaryOp Mod int int", "exec For Name Call cons nil", "pyIter ref", "exec Assign cons ListComp"].contains s.getString then `(tactic| (refine halt ?_)) else Lean.Macro.throwUnsupported
local macro_rules | `(tactic| walk_at $_:str) => Lean.Macro.throwUnsupported
@[irreducible] noncomputable def SL7 : {P : Prop × Prop // P.1 → P.2 → SL6.1} := by
  apply mkS2
  case stgF =>
    intro hW hV
    w_top off
    have hfill : bothOf PySem.Challenge.rw_wu0023_01 Mine.frag.heap_1 := (by k_fill; trivial)
    clear hfill
    with_unfolding_all intro _
    intros
    rename_i o7 o6x1 o5x1 o4x1 o3x1 o2 o1 X2 T2 K9 lifted C88 C95 l0 lx2 hx2x1x1x1 l1x2 hx1x1x1x1 o' d' tkx3x1 hx2x1x1 tkx2x1x1 t₁x1x1x1 u₁x1x1x1 v₁x1x1x1 ax1x1x1x1 h7 z0 z1 z2 z3 z4 z5 z6 t0 t1 t2 t3 t4 t5 t6 D h0 tk0 c7 e7 c6 e6 c5 e5 c4x1 c3x1 mm0 hx1x1x1 tkx1x1x1x1 mm o4 o3 m n u3 u4 hmn d3 d4 D2 ws h2 hn3 hlen g7 ys fs hfs hfl hfb Df hf tkf hq1 o5 d5 tkq tq1 hq2 tq2 hq3 hq4 ax1x1x1 hr tkr t1' t2' t3' hag b hb1 hb2 st hs1 hs2 lr lh lr1 h5 o6 tkx1x1x1 mm5 tb ts tp eb es ep hx3x1 tkx2x1 t₁x1x1 u₁x1x1 v₁x1x1 ax1x1 hx2x1 tkjx1 mmj o6j lj zs kj ebj esj epj d6j rest Ri Sr hp tkp x dx hsp tkp2 tpp hx0 hd0 hxd hx hdx hxL hdL hxg hdg hxN hdN hx1x1 tkx1x1 hx7 tkx3 t₁x1 u₁x1 v₁x1 ax9 h tkj mmk c1 c2 c3 c4 vsP epP hsP tkP tP rp PIn SrP hlz hpw hm2 lx1 hx6 l1x1 aS hS iS Nx1 ax8 ax7 ax6 ax5 lS hx5 tkx2 l' hx4 l1 aM hM iM N ax4 ax3 ax2 ax1 lM hx3 tkx1 hx2 hx1 h' tk t₁ u₁ v₁ a hpos
    refine ⟨?step, ?done⟩
    case' step =>
      intro I i s' oI t' hi hJ hLI hgI hI hIc
      obtain ⟨mm, vS, kS, vM, kM, tw, vl, o7, c7, p84, p91, F, C, e1, e2, e3, e4, d7, N, i1, i2, k1, k2, P, G, hos, la⟩ := hJ
      obtain ⟨c1, c2, c3, c4⟩ := C
      obtain ⟨vsP, epP, hsP, tkP, tP, aP1, aP2, aP3⟩ := P
      obtain ⟨rp, Nrp, PIn, SrP⟩ := pairs_rest F aP3
      have N1 := news_cons (p := (I, oI)) ⟨hI, Nat.ne_of_gt hLI, hgI⟩ (news_cons (p := (x, pileO dx vsP epP)) ⟨aP1, hxL, hxg⟩ (news_cons (p := (dx, dictP hsP tkP tP)) ⟨aP2, hdL, hdg⟩ (news_app N Nrp)))
      simp only [List.cons_append, List.nil_append] at N1
      clear N Nrp aP1 aP2 aP3 la vl e4
      have Srr : AllSeq (rest ++ rp) := fun p hp => by
        rcases List.mem_append.mp hp with hp | hp
        · exact Sr p hp
        · exact SrP p hp
      have Nrr := news_mem (l' := rest ++ rp) N1 (fun p hp => by repeat (first | exact hp | apply List.Mem.tail))
      have z7 := (N1 (_, o7) (.tail _ (.tail _ (.tail _ (.tail _ (.tail _ (.head _))))))).1
      dsimp only at z7
      have N3 := news_mem (l' := (I, oI) :: (x, pileO dx vsP epP) :: (dx, dictP hsP tkP tP) :: (aS, W.listOf (List.toArray vS) kS) :: (aM, W.listOf (List.toArray vM) kM) :: (84, tabObj p84) :: (91, tabObj p91) :: (lj, W.listOf (List.toArray zs) kj) :: (_, o6j) :: (Df, LCg.lst ys) :: (_, o5) :: (_, o4) :: (_, o3) :: (rest ++ rp)) N1 (by
        (repeat (refine List.forall_mem_cons.mpr ⟨by k_mem, ?_⟩))
        exact fun p hp => by repeat (first | exact hp | apply List.Mem.tail))
      have off7 := off_cells N3 z7 d7 (List.forall_mem_cons.mpr ⟨.inl (fun c w => by obtain ⟨_, fs9, q9⟩ := hIc; dsimp only at w; rw [q9] at w; cases w), List.forall_mem_cons.mpr ⟨.inl (fun c w => by cases w), List.forall_mem_cons.mpr ⟨.inl (fun c w => by cases w), List.forall_mem_cons.mpr ⟨.inl (fun c w => by cases w), List.forall_mem_cons.mpr ⟨.inl (fun c w => by cases w), List.forall_mem_cons.mpr ⟨.inl (fun c w => by cases w), List.forall_mem_cons.mpr ⟨.inl (fun c w => by cases w), List.forall_mem_cons.mpr ⟨.inl (fun c w => by cases w), List.forall_mem_cons.mpr ⟨.inr (by simp), List.forall_mem_cons.mpr ⟨.inl (fun c w => by cases w), List.forall_mem_cons.mpr ⟨.inr (by simp), List.forall_mem_cons.mpr ⟨.inr (by simp), List.forall_mem_cons.mpr ⟨.inr (by simp), seq_nc Srr⟩⟩⟩⟩⟩⟩⟩⟩⟩⟩⟩⟩⟩)
      have N4 := news_cons (N1 (_, o7) (.tail _ (.tail _ (.tail _ (.tail _ (.tail _ (.head _))))))) N3
      clear N1 N3 Nrr
      refine wpAny_assign_Name ?_
      refine' storeX_C ?sF ?sN ?sc ?sU ?sd ?_ ?sa ?sb
      case sa => rfl
      case sb => rfl
      case sF => exact F
      case sN => exact N4
      case sc => rfl
      case sU => exact UpdF.head off7
      case sd => exact d7
      intro h1 o7' F1 N5 d7'
      clear F N4 off7 z7 d7
      try dsimp only at N5 ⊢
      have hm2 := menu_m hmn
      have hi27 : i < 27 := Nat.lt_of_lt_of_le hi (menu_pow hmn (Nat.le_refl n))
      k_steps
      change wpAny _ _ _ _ _ _
      (with_reducible rename Fr _ _ _ _ => F2)
      (with_reducible rename News _ _ _ _ => N6)
      refine' assign_down ?bF ?ba ?bs ?bc ?bd ?be ?bf ?bx ?by_ ?bp ?bh ?bi
      case bF => exact F2
      case ba => rfl
      case bs => with_unfolding_all rfl
      case bc => rfl
      case bd => decide
      case be => rfl
      case bf => decide
      case bx => rfl
      case by_ => rfl
      case bp => rfl
      case bi => exact fun _ => rfl
      k_steps
      (with_reducible rename Fr _ _ _ _ => F2)
      (with_reducible rename News _ _ _ _ => N6)
      (with_reducible rename IsRange _ _ _ _ _ _ _ _ => R2)
      dsimp only
      refine' DownSrc.mk (n := n) ?ca ?cF ?cN ?cr ?cs ?cn ?cz ?_
      case ca => rfl
      case cF => exact F2
      case cN => exact N6
      case cr => exact R2
      case cs => exact small_down (by omega) (by omega) (by omega) (by omega)
      case cn => rw [rangeSize_down]; split <;> omega
      case cz => show n ≤ 2 ^ 24; omega
      intro g8
      refine' compRest_same (fun j ys => IntsAre ys (figsTo m n i j)) n ?hS ?hfin ?hstep n 0 [] ?he0 ?he1
      case hS => trivial
      case he0 => exact Nat.zero_add _
      case he1 => exact .nil
      case hstep =>
        rintro j ysf v Ij oIj Cj oCj Dj mj hj tkj E' hjn hints9 ⟨tj, rfl⟩ hCj hmj Fj Nj offj nej
        clear F2 N6 R2
        dsimp only
        k_steps
        change wpAny _ _ _ _ _ _
        refine' pow_nat (e := n - 1 - j) ?p1 ?p2 ?p3 ?_
        case p1 => omega
        case p2 => omega
        case p3 => omega
        dsimp only
        change wpAny _ _ _ _ _ _
        k_steps
        change wpAny _ _ _ _ _ _
        refine' div_nat ?q1 ?q2 ?_
        case q1 => exact Nat.pow_pos (by omega)
        case q2 => exact Nat.le_trans (menu_pow hmn (by omega)) (by decide)
        dsimp only
        change wpAny _ _ _ _ _ _
        k_steps
        change wpAny _ _ _ _ _ _
        refine' mod_nat ?r1 ?_
        case r1 => omega
        dsimp only
        refine' TurnC.intro ?tF ?tN ?tS ?tJ
        case tF => assumption
        case tN => assumption
        case tS => exact fun p hp => hp
        case tJ => rw [figsTo_succ]; exact ints_snoc hints9 _ _
      clear F2 N6 R2
      (with_reducible rename Fr _ _ _ _ => Fz)
      (with_reducible rename News _ _ _ _ => Nz)
      clear Fz Nz
      intro ysf hfig Dg hgh tkg Fg Ng offg
      dsimp only
    · repeat (rename _ => x; revert x)
      exact fun a _ => a.out
    · repeat (rename _ => x; revert x)
      exact fun _ c => c.out
end
section
local macro_rules | `(tactic| walk_at $s:str) => if ["call type:str", "eval ListComp", "CompSrc", "binaryOp Mult str int", "binaryOp Add str str", "call builtin:str.join", "compareOp NotEq str str", "exec Assign"].contains s.getString then `(tactic| (refine halt ?_)) else Lean.Macro.throwUnsupported
@[irreducible] noncomputable def SL8 : {P : Prop // P → SL7.1.1} := by
  apply mkS
  case stgF =>
    intro hW
    refine ?stp
    case' stp =>
      w_top off
      have hfill : bothOf PySem.Challenge.rw_wu0023_01 Mine.frag.heap_1 := (by k_fill; trivial)
      clear hfill
      with_unfolding_all intro _
      intros
      rename_i o7x1 o6x1 o5x1 o4x1 o3x1 o2 o1 X2 T2 K9 lifted C88 C95 l0 lx2 hx2x1x1x1 l1x2 hx1x1x1x1x1 o' d' tkx3x1 hx2x1x1 tkx2x1x1 t₁x1x1x1x1 u₁x1x1x1x1 v₁x1x1x1x1 ax1x1x1x1x1 h7 z0 z1 z2 z3 z4 z5 z6 t0 t1 t2 t3 t4 t5 t6 D h0 tk0 c7x1 e7 c6 e6 c5 e5 c4x1x1 c3x1x1 mm0 hx1x1x1x1 tkx1x1x1x1x1 mmx1 o4 o3 m n u3 u4 hmn d3 d4 D2 ws h2 hn3 hlen g7 ys fs hfs hfl hfb Df hf tkf hq1 o5 d5 tkq tq1 hq2 tq2 hq3 hq4 ax1x1x1x1 hr tkr t1' t2' t3' hag b hb1 hb2 st hs1 hs2 lr lh lr1 h5 o6 tkx1x1x1x1 mm5 tb ts tp eb es ep hx3x1 tkx2x1 t₁x1x1x1 u₁x1x1x1 v₁x1x1x1 ax1x1x1 hx2x1 tkjx1 mmj o6j lj zs kj ebj esj epj d6j rest Ri Sr hp tkp x dx hsp tkp2 tpp hx0 hd0 hxd hx hdx hxL hdL hxg hdg hxN hdN hx1x1x1 tkx1x1x1 hx7 tkx3 t₁x1x1 u₁x1x1 v₁x1x1 ax9 h tkj mmk c1x1 c2x1 c3x1 c4x1 vsPx1 epPx1 hsPx1 tkPx1 tPx1 rpx1 PInx1 SrPx1 hlz hpw hm2x1 lx1 hx6 l1x1 aS hS iS Nx1 ax8 ax7 ax6 ax5 lS hx5 tkx2 l' hx4 l1 aM hM iM N ax4 ax3 ax2 ax1x1 lM hx3 tkx1x1 hx2 hx1x1 hx1 tkx1 t₁x1 u₁x1 v₁x1 ax1 hpos I i s' oI t' hi hLI hgI hI hIc mm vS kS vM kM tw o7 c7 p84 p91 e1 e2 e3 i1 i2 k1 k2 G hos c1 c2 c3 c4 vsP epP hsP tkP tP rp PIn SrP Srr h1 o7' d7' hm2 hi27 h' tk t₁ u₁ v₁ a g8 ysf hfig Dg hgh tkg Fg Ng offg
      try dsimp only
      k_steps
      change wpAny _ _ _ _ _ _
      (with_reducible rename Fr _ _ _ _ => F2)
      (with_reducible rename News _ _ _ _ => N2)
      have hir : i ∈ List.range (m ^ n) := List.mem_range.mpr hi
      have hir2 : i ∈ List.range (m ^ n + 1) := List.mem_range.mpr (Nat.lt_succ_of_lt hi)
      have Nrp := news_mem (l' := rp) N2 (fun p hp => by repeat (first | exact List.mem_append_right _ hp | apply List.Mem.tail))
      have hxA := (N2 (x, pileO dx vsP epP) (by k_mem)).1
      have hdA := (N2 (dx, dictP hsP tkP tP) (by k_mem)).1
      have h91 := N2 (91, tabObj p91) (by k_mem)
      refine' K_str ?X ?T ?C ?k0 ?x0 ?d0 ?P0 ?xd ?P ?hP ?ok ?len ?fit ?sz ?G ?A0 ?dep ?un ?_
      case X => exact X2
      case T => exact T2
      case C => exact C95
      case k0 => exact F2.keep
      case x0 => exact hxg
      case d0 => exact hdg
      case P0 => exact h91.2.2
      case xd => exact hxd
      case P => exact pile_mk rfl hxA hdA (pairs_of F2 Nrp PIn)
      case hP => exact h91.1
      case ok => exact k2
      case len => intro q hq; have := ts_small (m, n) hmn i hir2 q hq; omega
      case fit => exact ts_join (m, n) hmn i hir2
      case sz => show (tsOf m n i).length ≤ 2 ^ 24; rw [tsOf]; simp; omega
      case G => exact G
      case A0 => rfl
      case dep => simp only [depth_deeper]; decide
      case un => simp only [units_deeper]; decide
      intro s2 tS p91' hk2 h91' ok91 G2 os2
      have F3 := fr_x F2 hk2 h91.2.2 (Ne.symm h91.2.1)
      have N3 := news_mem (l' := (Dg, LCg.lst ysf) :: (_, o7') :: (I, oI) :: (x, pileO dx vsP epP) :: (dx, dictP hsP tkP tP) :: (aS, W.listOf (List.toArray vS) kS) :: (aM, W.listOf (List.toArray vM) kM) :: (84, tabObj p84) :: (lj, W.listOf (List.toArray zs) kj) :: (_, o6j) :: (Df, LCg.lst ys) :: (_, o5) :: (_, o4) :: (_, o3) :: (rest ++ rp)) N2 (by
        (repeat (refine List.forall_mem_cons.mpr ⟨by k_mem, ?_⟩))
        exact fun p hp => by repeat (first | exact hp | apply List.Mem.tail))
      have N4 := news_cons (p := (91, tabObj p91')) ⟨h91', h91.2⟩ (news_but1 N3 hk2 (off_tab N3 h91.1 (List.forall_mem_cons.mpr ⟨.inl (fun fs w => by cases w), List.forall_mem_cons.mpr ⟨cell_tab d7', List.forall_mem_cons.mpr ⟨.inr (Nat.ne_of_gt (Nat.lt_trans l0.2 hLI)), List.forall_mem_cons.mpr ⟨.inl (fun fs w => by cases w), List.forall_mem_cons.mpr ⟨.inl (fun fs w => by cases w), List.forall_mem_cons.mpr ⟨.inl (fun fs w => by cases w), List.forall_mem_cons.mpr ⟨.inl (fun fs w => by cases w), List.forall_mem_cons.mpr ⟨.inr (show (84 : Nat) ≠ 91 by decide), List.forall_mem_cons.mpr ⟨.inl (fun fs w => by cases w), List.forall_mem_cons.mpr ⟨cell_tab d6j, List.forall_mem_cons.mpr ⟨.inl (fun fs w => by cases w), List.forall_mem_cons.mpr ⟨cell_tab d5, List.forall_mem_cons.mpr ⟨cell_tab d4, List.forall_mem_cons.mpr ⟨cell_tab d3, seq_tab Srr⟩⟩⟩⟩⟩⟩⟩⟩⟩⟩⟩⟩⟩⟩)))
      have hos2 := os2.trans hos
      clear F2 N2 N3 Nrp hxA hdA h91 h91' hk2 k2 G hos
      try dsimp only at N4 hos2
      change wpAny _ _ _ _ _ _
      k_steps
      change wpAny _ _ _ _ _ _
      (with_reducible rename Fr _ _ _ _ => F5)
      (with_reducible rename News _ _ _ _ => N5)
      refine' LCg.ListComp_U ?lF ?lb ?lc ?ld ?le ?lf ?_ ?li
      case lF => exact F5
      case lb => rfl
      case lc => decide
      case ld => rfl
      case le => decide
      case lf => rfl
      case li => exact fun _ => rfl
      k_steps
      change LCg.CompSrc _ _ _ _ _ _ _ _ _ _ _ _ _ _
      (with_reducible rename Fr _ _ _ _ => F5)
      (with_reducible rename News _ _ _ _ => N5)
      have hysl : ysf.length = n := by rw [ints_len hfig, figsTo]; simp
      try dsimp only
      refine' LCg.CompSrc.ledger (its := ysf.toArray) ?mh ?mF ?mN ?mm ?ms ?_
      case mh => rfl
      case mF => exact F5
      case mN => exact N5
      case mm => exact .tail _ (.head _)
      case ms => rw [List.size_toArray, hysl]; show n ≤ 2 ^ 24; omega
      intro g9
      refine' compRest_same (fun j ts => StrsAre ts (((figsTo m n i n).take j).map figText)) ysf.toArray.size ?cS ?cfin ?cstep _ 0 [] ?ce0 ?ce1
      case cS => exact .inr ⟨_, .tail _ (.head _), rfl, _, rfl⟩
      case ce0 => exact Nat.zero_add _
      case ce1 => exact .nil
      case cstep =>
        rintro j tsj v Ij oIj Cj oCj Dj mj hj tkj E' hjn hstr hvj hCj hmj Fj Nj offj nej
        rw [List.size_toArray] at hjn
        have hjl : j < (figsTo m n i n).length := by rw [← ints_len hfig]; exact hjn
        obtain ⟨td, rfl⟩ := ints_get hfig j v (by rw [← hvj]; simp)
        have hdm := figs_small (m := m) (n := n) (i := i) (j := n) (by omega) _ (List.getElem_mem hjl)
        rw [List.getD_eq_getElem?_getD, List.getElem?_eq_getElem hjl] at hmj
        simp only [Option.getD_some] at hmj
        have hd0 : 0 ≤ (figsTo m n i n)[j] := hdm.1
        have hd5 : (figsTo m n i n)[j] < 5 := by omega
        clear F5 N5
        try dsimp only
        k_steps
        change wpAny _ _ _ _ _ _
        refine SB.mul (mulOk_small hd0 hd5) (fun tq kq => ?_)
        try dsimp only
        change wpAny _ _ _ _ _ _
        k_steps
        change wpAny _ _ _ _ _ _
        refine SB.add (fun tq2 kq2 => ?_) ?hsz
        case hsz =>
          have := mul_len hd0 hd5
          have e1 : (Str.ofString "o").length = 1 := by decide +kernel
          rw [e1]
          show _ ≤ 2 ^ 24
          omega
        try dsimp only
        refine' TurnC.intro ?tF ?tN ?tS ?tJ
        case tF => assumption
        case tN => assumption
        case tS => exact fun p hp => hp
        case tJ =>
          rw [List.take_succ_eq_append_getElem hjl, List.map_append]
          exact strs_snoc hstr _ _
      intro tsl htl Dt hht tkt Ft Nt offt
      rw [List.size_toArray, ints_len hfig, List.take_length] at htl
      clear F5 N5
      try dsimp only
      change wpAny _ _ _ _ _ _
      k_steps
      change wpAny _ _ _ _ _ _
      (with_reducible rename Fr _ _ _ _ => F5)
      (with_reducible rename News _ _ _ _ => N5)
      refine join_listW (items := tsl.toArray) (ys := (figsTo m n i n).map figText) ?jl ?ji ?js ?jw (fun tjj kjj => ?_)
      case jl => exact ⟨_, (N5 (Dt, LCg.lst tsl) (.head _)).1, rfl, _, rfl⟩
      case ji => exact htl
      case js => decide +kernel
      case jw => exact texts_sum (by omega) (by omega) (by omega)
      try dsimp only
      change wpAny _ _ _ _ _ _
      k_steps
      change wpAny _ _ _ _ _ _
      refine ne_same (figs_text (m, n) hmn i hir).symm ?_
      try dsimp only
      k_steps
      (with_reducible rename Fr _ _ _ _ => F6)
      (with_reducible rename News _ _ _ _ => N6)
      have N7 := news_mem (l' := (_, o7') :: (I, oI) :: (x, pileO dx vsP epP) :: (dx, dictP hsP tkP tP) :: (aS, W.listOf (List.toArray vS) kS) :: (aM, W.listOf (List.toArray vM) kM) :: (84, tabObj p84) :: (91, tabObj p91') :: (lj, W.listOf (List.toArray zs) kj) :: (_, o6j) :: (Df, LCg.lst ys) :: (_, o5) :: (_, o4) :: (_, o3) :: (rest ++ rp)) N6 (by
        (repeat (refine List.forall_mem_cons.mpr ⟨by k_mem, ?_⟩))
        exact fun p hp => by repeat (first | exact hp | apply List.Mem.tail))
      clear N6 htl offt hfig offg
      change wpAny _ _ _ _ _ _
    repeat (rename _ => x; revert x)
    exact Keep.out
end
section
local macro_rules | `(tactic| walk_at "call ref") => `(tactic| ((with_reducible show wpAny _ _ (PySem.call (Value.ref 28) _) _ _ _); (refine halt ?_)))
local macro_rules | `(tactic| walk_at $s:str) => if ["subscriptTail Name Name ref int", "exec If", "binaryOp Mult float int", "call type:int", "binaryOp Mod int int"].contains s.getString then `(tactic| (refine halt ?_)) else Lean.Macro.throwUnsupported
@[irreducible] noncomputable def SL9 : {P : Prop // P → SL8.1} := by
  apply mkS
  case stgF =>
    intro hW
    refine ?stp
    case' stp =>
      w_top off
      have hfill : bothOf PySem.Challenge.rw_wu0023_01 Mine.frag.heap_1 := (by k_fill; trivial)
      clear hfill
      with_unfolding_all intro _
      intros
      rename_i o7x1 o6x1 o5x1 o4x1 o3x1 o2 o1 X2 T2 K9 lifted C88 C95 l0 lx2 hx2x1x1x1 l1x2 hx1x1x1x1x1 o' d' tkx3x1 hx2x1x1 tkx2x1x1 t₁x1x1x1x1 u₁x1x1x1x1 v₁x1x1x1x1 ax1x1x1x1x1 h7 z0 z1 z2 z3 z4 z5 z6 t0 t1 t2 t3 t4 t5 t6 D h0 tk0 c7x1 e7 c6 e6 c5 e5 c4x1x1 c3x1x1 mm0 hx1x1x1x1 tkx1x1x1x1x1 mmx1 o4 o3 m n u3 u4 hmn d3 d4 D2 ws h2 hn3 hlen g7 ys fs hfs hfl hfb Df hf tkf hq1 o5 d5 tkq tq1 hq2 tq2 hq3 hq4 ax1x1x1x1 hr tkr t1' t2' t3' hag b hb1 hb2 st hs1 hs2 lr lh lr1 h5 o6 tkx1x1x1x1 mm5 tb ts tp eb es ep hx3x1 tkx2x1 t₁x1x1x1 u₁x1x1x1 v₁x1x1x1 ax1x1x1 hx2x1 tkjx1 mmj o6j lj zs kj ebj esj epj d6j rest Ri Sr hp tkp x dx hsp tkp2 tpp hx0 hd0 hxd hx hdx hxL hdL hxg hdg hxN hdN hx1x1x1 tkx1x1x1 hx7 tkx3 t₁x1x1 u₁x1x1 v₁x1x1 ax9 h tkj mmk c1x1 c2x1 c3x1 c4x1 vsPx1 epPx1 hsPx1 tkPx1 tPx1 rpx1 PInx1 SrPx1 hlz hpw hm2x1 lx1 hx6 l1x1 aS hS iS Nx1 ax8 ax7 ax6 ax5 lS hx5 tkx2 l' hx4 l1 aM hM iM N ax4 ax3 ax2 ax1x1 lM hx3 tkx1x1 hx2 hx1x1 hx1 tkx1 t₁x1 u₁x1 v₁x1 ax1 hpos I i s' oI t' hi hLI hgI hI hIc mm vS kS vM kM tw o7 c7 p84 p91 e1 e2 e3 i1 i2 k1 c1 c2 c3 c4 vsP epP hsP tkP tP rp PIn SrP Srr h1 o7' d7' hm2 hi27 h' tk t₁ u₁ v₁ a g8 ysf Dg hgh tkg hir hir2 s2 tS p91' ok91 G2 os2 hos2 hysl g9 tsl Dt hht tkt F6 tjj kjj N7
      have hic : i < (rowsP m b st n).length := by rw [← Ri.1, hlz]; exact hi
      have hokc := (rows_ok hmn hb1 (by omega) hs1 (by omega) (Nat.le_refl n)).2 _ (List.getElem_mem hic)
      obtain ⟨ar, v1, v2, v3, ez, em⟩ := Ri.2 i (rowsP m b st n)[i] (List.getElem?_eq_getElem hic)
      have N8 := news_cons (p := (ar, tup3 (rowsP m b st n)[i].1 (rowsP m b st n)[i].2.1 (rowsP m b st n)[i].2.2 v1 v2 v3)) (N7 _ (by repeat (first | exact List.mem_append_left _ em | apply List.Mem.tail))) N7
      unfold tup3 at N8
      have pl := place_is hmn hb1 (by omega) hs1 (by omega) hic
      generalize hcol : (rowsP m b st n)[i] = col at N8 hokc em pl
      rw [show (2 : Int) ^ Int.toNat 30 = 1073741824 by decide] at c3
      clear N7
      k_steps
      change wpAny _ _ _ _ _ _
      (with_reducible rename News _ _ _ _ => N9)
      refine' item_at (items := zs.toArray) (x := .ref ar) ?l0 ?k0 ?x0 ?_ ?s0 ?g0
      case l0 => exact ⟨_, (N9 (lj, W.listOf (List.toArray zs) kj) (by k_mem)).1, rfl, _, rfl⟩
      case k0 => omega
      case x0 => rw [List.getElem?_toArray]; exact ez
      case s0 => with_unfolding_all rfl
      case g0 => intro _; with_unfolding_all rfl
      try dsimp only
      change wpAny _ _ _ _ _ _
      k_steps
      change wpAny _ _ _ _ _ _
      (with_reducible rename News _ _ _ _ => N9)
      refine' item_at (items := zs.toArray) (x := .ref ar) ?l1 ?k1 ?x1 ?_ ?s1 ?g1
      case l1 => exact ⟨_, (N9 (lj, W.listOf (List.toArray zs) kj) (by k_mem)).1, rfl, _, rfl⟩
      case k1 => omega
      case x1 => rw [List.getElem?_toArray]; exact ez
      case s1 => with_unfolding_all rfl
      case g1 => intro _; with_unfolding_all rfl
      try dsimp only
      change wpAny _ _ _ _ _ _
      k_steps
      change wpAny _ _ _ _ _ _
      (with_reducible rename News _ _ _ _ => N9)
      refine' item_at (items := zs.toArray) (x := .ref ar) ?l2 ?k2 ?x2 ?_ ?s2 ?g2
      case l2 => exact ⟨_, (N9 (lj, W.listOf (List.toArray zs) kj) (by k_mem)).1, rfl, _, rfl⟩
      case k2 => omega
      case x2 => rw [List.getElem?_toArray]; exact ez
      case s2 => with_unfolding_all rfl
      case g2 => intro _; with_unfolding_all rfl
      try dsimp only
      change wpAny _ _ _ _ _ _
      k_steps
      change wpAny _ _ _ _ _ _
      (with_reducible rename Fr _ _ _ _ => F9)
      (with_reducible rename News _ _ _ _ => N9)
      refine' K_rgb ?rX ?rT ?rA ?rd ?ru ?rz ?_
      case rX => exact X2.keeps F9.keep
      case rT => exact Top.keeps T2 F9.keep
      case rA => rfl
      case rd => simp only [depth_deeper]; decide
      case ru => simp only [units_deeper]; decide
      case rz => exact hokc
      intro ah hh9 tk9 u1 u2 u3' hk9 hn9 hb9
      have F10 := F9.keeps hk9
      have N10 := newsAdd F9 N9 hk9 hn9 hb9
      unfold tup3 at N10
      clear F9 N9 hk9 hn9 hb9
      try dsimp only
      change wpAny _ _ _ _ _ _
      k_steps
      change wpAny _ _ _ _ _ _
      refine mul_f_int (mul_inf (by omega) (by omega)) ?_
      try dsimp only
      change wpAny _ _ _ _ _ _
      k_steps
      change wpAny _ _ _ _ _ _
      refine int_f pl.f1 ?_
      try dsimp only
      change wpAny _ _ _ _ _ _
      k_steps
      change wpAny _ _ _ _ _ _
      refine mod_eq (by omega) pl.e1 ?_
      try dsimp only
      change wpAny _ _ _ _ _ _
      k_steps
      change wpAny _ _ _ _ _ _
      (with_reducible rename Fr _ _ _ _ => F6)
      (with_reducible rename News _ _ _ _ => N6)
      have N7 := news_mem (l' := (_, o7') :: (I, oI) :: (x, pileO dx vsP epP) :: (dx, dictP hsP tkP tP) :: (aS, W.listOf (List.toArray vS) kS) :: (aM, W.listOf (List.toArray vM) kM) :: (84, tabObj p84) :: (91, tabObj p91') :: (lj, W.listOf (List.toArray zs) kj) :: (_, o6j) :: (Df, LCg.lst ys) :: (_, o5) :: (_, o4) :: (_, o3) :: (rest ++ rp)) N6 (by
        (repeat (refine List.forall_mem_cons.mpr ⟨by k_mem, ?_⟩))
        exact fun p hp => by repeat (first | exact hp | apply List.Mem.tail))
      obtain ⟨mm9, tt1, tt2, tt3, tt4, F9, q1, q2, q3, q4, q5, q6, q7, q8, q9, q10, q11⟩ := pack9 F6 c1 c2 c3 c4 e1 e2 e3 rfl rfl rfl rfl
      clear N6 F6 c1 c2 c3 c4 e1 e2 e3
    repeat (rename _ => x; revert x)
    exact Keep.out
end
section
local macro_rules | `(tactic| walk_at $s:str) => if ["binaryOp Mult float int", "call type:int", "binaryOp Mod int int", "call builtin:len", "exec For Name Name cons nil"].contains s.getString then `(tactic| (refine halt ?_)) else Lean.Macro.throwUnsupported
@[irreducible] noncomputable def SLA : {P : Prop // P → SL9.1} := by
  apply mkS
  case stgF =>
    intro hW
    refine ?stp
    case' stp =>
      w_top off
      have hfill : bothOf PySem.Challenge.rw_wu0023_01 Mine.frag.heap_1 := (by k_fill; trivial)
      clear hfill
      with_unfolding_all intro _
      intros
      rename_i o7x1 o6x1 o5x1 o4x1 o3x1 o2 o1 X2 T2 K9 lifted C88 C95 l0 lx2 hx2x1x1x1x1 l1x2 hx1x1x1x1x1x1 o' d' tkx3x1 hx2x1x1x1 tkx2x1x1x1 t₁x1x1x1x1 u₁x1x1x1x1 v₁x1x1x1x1 ax1x1x1x1x1 h7 z0 z1 z2 z3 z4 z5 z6 t0 t1 t2 t3 t4 t5 t6 D h0 tk0 c7x1 e7 c6 e6 c5 e5 c4x1x1 c3x1x1 mm0 hx1x1x1x1x1 tkx1x1x1x1x1x1 mmx1 o4 o3 m n u3 u4 hmn d3 d4 D2 ws h2 hn3 hlen g7 ys fs hfs hfl hfb Df hf tkf hq1 o5 d5 tkq tq1 hq2 tq2 hq3 hq4 ax1x1x1x1 hr tkr t1' t2' t3' hag b hb1 hb2 st hs1 hs2 lr lh lr1 h5 o6 tkx1x1x1x1x1 mm5 tb ts tp eb es ep hx3x1x1 tkx2x1x1 t₁x1x1x1 u₁x1x1x1 v₁x1x1x1 ax1x1x1 hx2x1x1 tkjx1 mmj o6j lj zs kj ebj esj epj d6j rest Ri Sr hp tkp x dx hsp tkp2 tpp hx0 hd0 hxd hx hdx hxL hdL hxg hdg hxN hdN hx1x1x1x1 tkx1x1x1x1 hx7 tkx3 t₁x1x1 u₁x1x1 v₁x1x1 ax9 h tkj mmk c1x1 c2x1 c3x1 c4x1 vsPx1 epPx1 hsPx1 tkPx1 tPx1 rpx1 PInx1 SrPx1 hlz hpw hm2x1 lx1 hx6 l1x1 aS hS iS Nx1 ax8 ax7 ax6 ax5 lS hx5x1 tkx2x1 l' hx4x1 l1 aM hM iM N ax4 ax3 ax2 ax1x1 lM hx3x1 tkx1x1x1 hx2x1 hx1x1x1 hx1x1 tkx1x1 t₁x1 u₁x1 v₁x1 ax1 hpos I i s' oI t' hi hLI hgI hI hIc mm vS kS vM kM tw o7 c7 p84 p91 i1 i2 k1 vsP epP hsP tkP tP rp PIn SrP Srr h1 o7' d7' hm2 hi27 hx5 tkx2 t₁ u₁ v₁ a g8 ysf Dg hgh tkg hir hir2 s2 tS p91' ok91 G2 os2 hos2 hysl g9 tsl Dt hht tkt tjj kjj hic ar v1 v2 v3 ez col hcol hokc em pl ah hh9 tk9 u1 u2 u3' hx4 hx3 hx2 hx1 tkx1 h' tk N7 mm9 tt1 tt2 tt3 tt4 F9 q1 q2 q3 q4 q5 q6 q7 q8 q9 q10 q11
      k_steps
      change wpAny _ _ _ _ _ _
      refine mul_f_int (mul_inf (by omega) (by omega)) ?_
      try dsimp only
      change wpAny _ _ _ _ _ _
      k_steps
      change wpAny _ _ _ _ _ _
      refine mul_f_int part_inf ?_
      try dsimp only
      change wpAny _ _ _ _ _ _
      k_steps
      change wpAny _ _ _ _ _ _
      refine int_f pl.f2 ?_
      try dsimp only
      change wpAny _ _ _ _ _ _
      k_steps
      change wpAny _ _ _ _ _ _
      refine mod_eq (by omega) pl.e2 ?_
      try dsimp only
      change wpAny _ _ _ _ _ _
      k_steps
      change wpAny _ _ _ _ _ _
      (with_reducible rename Fr _ _ _ _ => F2)
      (with_reducible rename News _ _ _ _ => N2)
      have Nrp := news_mem (l' := rp) N2 (fun p hp => by repeat (first | exact List.mem_append_right _ hp | apply List.Mem.tail))
      have hxA := (N2 (x, pileO dx vsP epP) (by k_mem)).1
      have hdA := (N2 (dx, dictP hsP tkP tP) (by k_mem)).1
      have h84 := N2 (84, tabObj p84) (by k_mem)
      refine' K_len ?X ?T ?C ?k0 ?x0 ?d0 ?P0 ?xd ?P ?hP ?ok ?len ?sz ?G ?A0 ?dep ?un ?_
      case X => exact X2
      case T => exact T2
      case C => exact C88
      case k0 => exact F2
      case x0 => exact hxg
      case d0 => exact hdg
      case P0 => exact h84.2.2
      case xd => exact hxd
      case P => exact pile_mk rfl hxA hdA (pairs_of F2 Nrp PIn)
      case hP => exact h84.1
      case ok => exact k1
      case len => intro q hq; have := ts_small (m, n) hmn i hir2 q hq; omega
      case sz => show (tsOf m n i).length ≤ 1000; rw [tsOf]; simp; omega
      case G => exact G2
      case A0 => rfl
      case dep => simp only [depth_deeper]; decide
      case un => simp only [units_deeper]; decide
      intro s3 tS3 p84' hk3 h84' ok84 G3 os3
      have F3 := fr_x F2 hk3 h84.2.2 (Ne.symm h84.2.1)
      have N3 := news_mem (l' := _ :: (_, o7') :: (I, oI) :: (x, pileO dx vsP epP) :: (dx, dictP hsP tkP tP) :: (aS, W.listOf (List.toArray vS) kS) :: (aM, W.listOf (List.toArray vM) kM) :: (91, tabObj p91') :: (lj, W.listOf (List.toArray zs) kj) :: (_, o6j) :: (Df, LCg.lst ys) :: (_, o5) :: (_, o4) :: (_, o3) :: (rest ++ rp)) N2 (by
        (repeat (refine List.forall_mem_cons.mpr ⟨by k_mem, ?_⟩))
        exact fun p hp => by repeat (first | exact hp | apply List.Mem.tail))
      have N4 := news_cons (p := (84, tabObj p84')) ⟨h84', h84.2⟩ (news_but1 N3 hk3 (off_tab N3 h84.1 (List.forall_mem_cons.mpr ⟨.inl (fun fs w => by cases w), List.forall_mem_cons.mpr ⟨cell_tab d7', List.forall_mem_cons.mpr ⟨.inr (Nat.ne_of_gt (Nat.lt_trans l0.1 hLI)), List.forall_mem_cons.mpr ⟨.inl (fun fs w => by cases w), List.forall_mem_cons.mpr ⟨.inl (fun fs w => by cases w), List.forall_mem_cons.mpr ⟨.inl (fun fs w => by cases w), List.forall_mem_cons.mpr ⟨.inl (fun fs w => by cases w), List.forall_mem_cons.mpr ⟨.inr (show (91 : Nat) ≠ 84 by decide), List.forall_mem_cons.mpr ⟨.inl (fun fs w => by cases w), List.forall_mem_cons.mpr ⟨cell_tab d6j, List.forall_mem_cons.mpr ⟨.inl (fun fs w => by cases w), List.forall_mem_cons.mpr ⟨cell_tab d5, List.forall_mem_cons.mpr ⟨cell_tab d4, List.forall_mem_cons.mpr ⟨cell_tab d3, seq_tab Srr⟩⟩⟩⟩⟩⟩⟩⟩⟩⟩⟩⟩⟩⟩)))
      have hos3 := os3.trans hos2
      clear F2 N2 N3 Nrp hxA hdA h84 h84' hk3 k1 G2 hos2
      try dsimp only at N4 hos3
      change wpAny _ _ _ _ _ _
      k_steps
      change wpAny _ _ _ _ _ _
      refine mod_eq (by omega) (ts_sum (m, n) hmn i hir) ?_
      try dsimp only
      change wpAny _ _ _ _ _ _
      k_steps
      change wpAny _ _ _ _ _ _
      refine mul_f_int part_inf ?_
      try dsimp only
      change wpAny _ _ _ _ _ _
      k_steps
      change wpAny _ _ _ _ _ _
      refine int_eq_f pl.f3 pl.e3 ?_
      try dsimp only
      change wpAny _ _ _ _ _ _
      k_steps
      change wpAny _ _ _ _ _ _
      refine mul_f_int part_inf ?_
      try dsimp only
      change wpAny _ _ _ _ _ _
      k_steps
      change wpAny _ _ _ _ _ _
      refine int_eq_f pl.f4 pl.e4 ?_
      try dsimp only
      change wpAny _ _ _ _ _ _
      k_steps
      change wpAny _ _ _ _ _ _
      (with_reducible rename Fr _ _ _ _ => F6)
      (with_reducible rename News _ _ _ _ => N6)
      have N7 := news_mem (l' := (_, o7') :: (I, oI) :: (x, pileO dx vsP epP) :: (dx, dictP hsP tkP tP) :: (aS, W.listOf (List.toArray vS) kS) :: (aM, W.listOf (List.toArray vM) kM) :: (84, tabObj p84') :: (91, tabObj p91') :: (lj, W.listOf (List.toArray zs) kj) :: (_, o6j) :: (Df, LCg.lst ys) :: (_, o5) :: (_, o4) :: (_, o3) :: (rest ++ rp)) N6 (by
        (repeat (refine List.forall_mem_cons.mpr ⟨by k_mem, ?_⟩))
        exact fun p hp => by repeat (first | exact hp | apply List.Mem.tail))
      obtain ⟨mmA, tvA, FA, CA, vA⟩ := packB (y := Str.ofString "value") F6 ⟨q1, q2, q3, q4, q5, q6, q7, q11⟩ rfl
      clear N6 F6 q1 q2 q3 q4 q5 q6 q7 q8 q9 q10 q11 pl hokc em hcol
    repeat (rename _ => x; revert x)
    exact Keep.out
end
section
local macro_rules | `(tactic| walk_at "call ref") => `(tactic| (first | ((with_reducible show wpAny _ _ (PySem.call (Value.ref 154) _) _ _ _); (refine halt ?_)) | ((with_reducible show wpAny _ _ (PySem.call (Value.ref 147) _) _ _ _); (refine halt ?_))))
local macro_rules | `(tactic| walk_at $s:str) => if ["pyIter ref", "eval ListComp"].contains s.getString then `(tactic| (refine halt ?_)) else Lean.Macro.throwUnsupported
@[irreducible] noncomputable def SLB : {P : Prop // P → SLA.1} := by
  apply mkS
  case stgF =>
    intro hW
    refine ?stp
    case' stp =>
      w_top off
      have hfill : bothOf PySem.Challenge.rw_wu0023_01 Mine.frag.heap_1 := (by k_fill; trivial)
      clear hfill
      with_unfolding_all intro _
      intros
      rename_i o7x1 o6x1 o5x1 o4x1 o3x1 o2 o1 X2 T2 K9 lifted C88 C95 l0 lx2 hx2x1x1x1x1x1 l1x2x1 hx1x1x1x1x1x1x1 o' d' tkx3x1 hx2x1x1x1x1 tkx2x1x1x1x1 t₁x1x1x1x1 u₁x1x1x1x1 v₁x1x1x1x1 ax1x1x1x1x1 h7 z0 z1 z2 z3 z4 z5 z6 t0 t1 t2 t3 t4 t5 t6 D h0 tk0 c7x1 e7 c6 e6 c5 e5 c4x1x1 c3x1x1 mm0 hx1x1x1x1x1x1 tkx1x1x1x1x1x1x1 mmx1 o4 o3 m n u3 u4 hmn d3 d4 D2 ws h2 hn3 hlen g7 ys fs hfs hfl hfb Df hf tkf hq1 o5 d5 tkq tq1 hq2 tq2 hq3 hq4 ax1x1x1x1 hr tkr t1' t2' t3' hag b hb1 hb2 st hs1 hs2 lr lh lr1 h5 o6 tkx1x1x1x1x1x1 mm5 tb ts tp eb es ep hx3x1x1x1 tkx2x1x1x1 t₁x1x1x1 u₁x1x1x1 v₁x1x1x1 ax1x1x1 hx2x1x1x1 tkjx1 mmj o6j lj zs kj ebj esj epj d6j rest Ri Sr hp tkp x dx hsp tkp2 tpp hx0 hd0 hxd hx hdx hxL hdL hxg hdg hxN hdN hx1x1x1x1x1 tkx1x1x1x1x1 hx7 tkx3 t₁x1x1 u₁x1x1 v₁x1x1 ax9 h tkj mmk c1x1 c2x1 c3x1 c4x1 vsPx1 epPx1 hsPx1 tkPx1 tPx1 rpx1 PInx1 SrPx1 hlz hpw hm2x1 lx1 hx6 l1x1x1 aS hS iS Nx1 ax8 ax7 ax6 ax5 lS hx5x1x1 tkx2x1x1 l' hx4x1x1 l1x4 aM hM iM N ax4 ax3 ax2 ax1x1 lM hx3x1x1 tkx1x1x1x1 hx2x1x1 hx1x1x1x1 hx1x1x1 tkx1x1x1 t₁x1 u₁x1 v₁x1 ax1 hpos I i s' oI t' hi hLI hgI hI hIc mm vS kS vM kM tw o7 c7 p84 p91 i1 i2 vsP epP hsP tkP tP rp PIn SrP Srr h1 o7' d7' hm2 hi27 hx5x1 tkx2x1 t₁ u₁ v₁ a g8 ysf Dg hgh tkg hir hir2 s2 tS p91' ok91 os2 hysl g9 tsl Dt hht tkt tjj kjj hic ar v1 v2 v3 ez col ah hh9 tk9 u1 u2 u3' hx4x1 hx3x1 hx2x1 hx1x1 tkx1x1 hx5 tkx2 mm9 tt1 tt2 tt3 tt4 Dx3 hx4 l1x3 s3 tS3 p84' ok84 G3 os3 hos3 Dx2 hx3 l1x2 tkx1 Dx1 hx2 l1x1 D' hx1 l1 tk h' N7 mmA tvA FA CA vA
      refine wpAny_For ?_ (by intro _; rfl)
      k_steps
      change wpAny _ _ _ _ _ _
      (with_reducible rename Fr _ _ _ _ => FA)
      (with_reducible rename News _ _ _ _ => N7)
      have hDl := N7 (Df, LCg.lst ys) (by k_mem)
      refine wpAny_pyIter_list (items := ys.toArray) ⟨_, hDl.1, rfl, _, rfl⟩ ?_
      try dsimp only
      refine' seq_fold (l := Df) (ol := LCg.lst ys) (items := ys.toArray) (kl := ys.length) (fun mm j => CoreB mm (b : Int) (st : Int) 1073741824 (wholeP fs n i) ((toldP m n i : Nat) : Int) tb ts tp tw tt4 x aS aM ∧ ∃ tv, mm (Str.ofString "value") = some (.int (valueTo fs i j) tv)) ?fh ?fi ?fI ?fL ?fF ?fC ?fN ?fl ?fd ?fn ?fg ?fs ?_
      case fh => rfl
      case fi => exact ⟨_, Heap.get?_push_size _ rfl, rfl, rfl⟩
      case fI => exact next_is_new FA
      case fL => exact Ne.symm (Nat.ne_of_lt FA.ns.lt)
      case fF => exact FA.push _
      case fN => exact N7.grown (fun _ _ e => Heap.get?_push_of_some _ e)
      case fC => exact ⟨CA, tvA, vA⟩
      case fl => k_mem
      case fd => rfl
      case fn => exact fun p hp => Nat.ne_of_lt (Heap.lt_size (N7 p hp).1)
      case fg => intro s9 v9 Q9 E9 i9 _ _ hq; exact wpAny_of_eq (a := ()) rfl hq
      case fs =>
        rintro j hj tkj mmj oIj v hv Fj ⟨Cj, tvj, vj⟩ Nj hcj hdj
        clear FA N7
        obtain ⟨tf, rfl⟩ := ints_get hfs j v (by rw [← hv]; simp)
        obtain ⟨q1, q2, q3, q4, q5, q6, q7, q8⟩ := Cj
        try dsimp only
        k_steps
        (with_reducible rename Fr _ _ _ _ => Fe)
        (with_reducible rename News _ _ _ _ => Ne)
        try dsimp only
        have hjl : j < fs.length := by
          rw [← ints_len hfs]
          have := (Array.getElem?_eq_some_iff.mp hv).1
          simpa using this
        have ev : valueTo fs i (j + 1) = valueTo fs i j * (i : Int) + fs.getD j 0 := by
          rw [valueTo_succ hjl]; simp [List.getD_eq_getElem?_getD, List.getElem?_eq_getElem hjl]
        refine' FoldEnd.mk ?eF ?eN ?eS ?eC
        case eF => exact Fe
        case eN => exact Ne
        case eS => exact fun p hp => hp
        case eC => exact ⟨⟨q1, q2, q3, q4, q5, q6, q7, q8⟩, _, by rw [ev]; rfl⟩
      rintro hB tkB mmB FB ⟨CB, tvB, vB⟩ NB
      clear FA N7 CA vA
      rw [List.size_toArray, ints_len hfs, valueTo_all] at vB
      obtain ⟨q1, q2, q3, q4, q5, q6, q7, q8⟩ := CB
      try dsimp only
      have htm : toldP m n i < m := Nat.mod_lt _ (by omega)
      k_steps
      change wpAny _ _ _ _ _ _
      (with_reducible rename Fr _ _ _ _ => FC)
      (with_reducible rename News _ _ _ _ => NC)
      have hSA := NC (aS, W.listOf (List.toArray vS) kS) (by k_mem)
      refine' K_getitem ?ax ?aT ?ak ?aa ?ah ?ai ?aj ?ak2 ?aA ?ad ?au ?_
      case ax => exact X2
      case aT => exact T2
      case ak => exact FC.keep
      case aa => exact hSA.2.2
      case ah => exact hSA.1
      case ai => exact i1
      case aj => rw [sumsP_len]; exact htm
      case ak2 => omega
      case aA => rfl
      case ad => simp only [depth_deeper]; decide
      case au => simp only [units_deeper]; decide
      intro tg hg9 tkg9 hkg
      have FD := FC.keeps hkg
      have ND := News.grown NC hkg
      clear FC NC hSA hkg
      try dsimp only
      change wpAny _ _ _ _ _ _
      k_steps
      change wpAny _ _ _ _ _ _
      (with_reducible rename Fr _ _ _ _ => FC)
      (with_reducible rename News _ _ _ _ => NC)
      have hSA := NC (aS, W.listOf (List.toArray vS) kS) (by k_mem)
      refine' K_setitem ?dx ?dT ?dk ?da ?dh ?di ?dj ?dk2 ?dA ?dd ?du ?_
      case dx => exact X2
      case dT => exact T2
      case dk => exact FC.keep
      case da => exact hSA.2.2
      case dh => exact hSA.1
      case di => exact i1
      case dj => rw [sumsP_len]; exact htm
      case dk2 => omega
      case dA => rfl
      case dd => simp only [depth_deeper]; decide
      case du => simp only [units_deeper]; decide
      intro hE tkE hkE hSE i1'
      have FE := fr_x FC hkE hSA.2.2 (Ne.symm hSA.2.1)
      have NE0 := news_mem (l' := (_, o7') :: (I, oI) :: (x, pileO dx vsP epP) :: (dx, dictP hsP tkP tP) :: (aM, W.listOf (List.toArray vM) kM) :: (84, tabObj p84') :: (91, tabObj p91') :: (lj, W.listOf (List.toArray zs) kj) :: (_, o6j) :: (Df, LCg.lst ys) :: (_, o5) :: (_, o4) :: (_, o3) :: (rest ++ rp)) NC (by
        (repeat (refine List.forall_mem_cons.mpr ⟨by k_mem, ?_⟩))
        exact fun p hp => by repeat (first | exact hp | apply List.Mem.tail))
      have NE := news_cons (p := (aS, W.listOf (List.toArray _) kS)) ⟨hSE, hSA.2⟩ (news_but1 NE0 hkE (off_obj NE0 hSA.1 (List.forall_mem_cons.mpr ⟨cell_no d7' rfl, List.forall_mem_cons.mpr ⟨cls_no (by rw [hIc.1]; intro q; injection q with q; exact absurd q (by decide)), List.forall_mem_cons.mpr ⟨cls_no (by intro q; first | cases q | (injection q with q; exact absurd q (by decide))), List.forall_mem_cons.mpr ⟨cls_no (by intro q; first | cases q | (injection q with q; exact absurd q (by decide))), List.forall_mem_cons.mpr ⟨.inr (Nat.ne_of_gt lM.2.1), List.forall_mem_cons.mpr ⟨cls_no (by intro q; first | cases q | (injection q with q; exact absurd q (by decide))), List.forall_mem_cons.mpr ⟨cls_no (by intro q; first | cases q | (injection q with q; exact absurd q (by decide))), List.forall_mem_cons.mpr ⟨.inr (Nat.ne_of_lt lS.2.2.2.1), List.forall_mem_cons.mpr ⟨cell_no d6j rfl, List.forall_mem_cons.mpr ⟨.inr (Nat.ne_of_lt lS.2.2.2.2.2.1), List.forall_mem_cons.mpr ⟨cell_no d5 rfl, List.forall_mem_cons.mpr ⟨cell_no d4 rfl, List.forall_mem_cons.mpr ⟨cell_no d3 rfl, seq_no Srr (by intro q; injection q with q; exact absurd q (by decide))⟩⟩⟩⟩⟩⟩⟩⟩⟩⟩⟩⟩⟩)))
      clear FC NC NE0 hSA hkE hSE i1
      have i1S : IntsAre _ (sumsP m n fs (i + 1)) := i1'
      clear i1' vB hDl
      generalize vS.set _ _ = vS2 at NE i1S
      try dsimp only
      change wpAny _ _ _ _ _ _
    repeat (rename _ => x; revert x)
    exact Keep.out
end
section
local macro_rules | `(tactic| walk_at "loadName") => `(tactic| (k_here; (with_reducible rename Fr _ _ _ _ => gF); refine' wpAny_loadName_local ?k1 ?k2 ?k3 ?k4 ?_; (case k1 => rfl); (case k2 => rfl); (case k3 => exact gF.ns); (case k4 => first | assumption | (repeat (first | assumption | refine upd_ne (by decide) ?_)))))
local macro_rules | `(tactic| walk_at $s:str) => if ["eval ListComp", "CompSrc", "subscriptTail Name Name ref int", "binaryOp Pow int int", "call builtin:sum", "exec For Tuple Name cons nil"].contains s.getString then `(tactic| (refine halt ?_)) else Lean.Macro.throwUnsupported
local macro_rules | `(tactic| walk_at $_:str) => Lean.Macro.throwUnsupported
@[irreducible] noncomputable def SLC : {P : Prop // P → SLB.1} := by
  apply mkS
  case stgF =>
    intro hW
    refine ?stp
    case' stp =>
      w_top off
      have hfill : bothOf PySem.Challenge.rw_wu0023_01 Mine.frag.heap_1 := (by k_fill; trivial)
      clear hfill
      with_unfolding_all intro _
      intros
      rename_i o7x1 o6x1 o5x1 o4x1 o3x1 o2 o1 X2 T2 K9 liftedx1 C88 C95 l0 lx2 hx2x1x1x1x1x1 l1x2x1 hx1x1x1x1x1x1x1x1 o' d' tkx3x1 hx2x1x1x1x1 tkx2x1x1x1x1 t₁x1x1x1x1 u₁x1x1x1x1 v₁x1x1x1x1 ax1x1x1x1x1 h7 z0 z1 z2 z3 z4 z5 z6 t0 t1 t2 t3 t4 t5 t6 D h0 tk0 c7x1 e7 c6 e6 c5 e5 c4x1x1 c3x1x1 mm0 hx1x1x1x1x1x1x1 tkx1x1x1x1x1x1x1x1 mmx1 o4 o3 m n u3 u4 hmn d3 d4 D2 ws h2 hn3 hlen g7 ys fs hfs hfl hfb Df hf tkf hq1 o5 d5 tkq tq1 hq2 tq2 hq3 hq4 ax1x1x1x1 hr tkr t1' t2' t3' hag b hb1 hb2 st hs1 hs2 lr lh lr1 h5 o6 tkx1x1x1x1x1x1x1 mm5 tb ts tp eb es ep hx3x1x1x1 tkx2x1x1x1 t₁x1x1x1 u₁x1x1x1 v₁x1x1x1 ax1x1x1 hx2x1x1x1 tkjx1 mmj o6j lj zs kj ebj esj epj d6j rest Ri Sr hp tkp x dx hsp tkp2 tpp hx0 hd0 hxd hx hdx hxL hdL hxg hdg hxN hdN hx1x1x1x1x1x1 tkx1x1x1x1x1x1 hx7 tkx3 t₁x1x1 u₁x1x1 v₁x1x1 ax9 h tkj mmk c1x1 c2x1 c3x1 c4x1 vsPx1 epPx1 hsPx1 tkPx1 tPx1 rpx1 PInx1 SrPx1 hlz hpw hm2x1 lx1 hx6 l1x1x1 aS hS iS Nx1 ax8 ax7 ax6 ax5 lS hx5x1x1 tkx2x1x1 l' hx4x1x1 l1x4 aM hM iM N ax4 ax3 ax2 ax1x1 lM hx3x1x1 tkx1x1x1x1x1 hx2x1x1 hx1x1x1x1x1 hx1x1x1x1 tkx1x1x1x1 t₁x1 u₁x1 v₁x1 ax1 hpos I i s' oI t' hi hLI hgI hI hIc mm vS kS vM kM tw o7 c7 p84 p91 i2 vsP epP hsP tkP tP rp PIn SrP Srr h1 o7' d7' hm2 hi27 hx5x1 tkx2x1 t₁ u₁ v₁ a g8 ysf Dg hgh tkg hir hir2 s2 tS p91' ok91 os2 hysl g9 tsl Dt hht tkt tjj kjj hic ar v1 v2 v3 ez col ah hh9 tk9 u1 u2 u3' hx4x1 hx3x1 hx2x1 hx1x1x1 tkx1x1x1 hx5 tkx2 mm9 tt1 tt2 tt3 tt4 Dx3 hx4 l1x3 s3 tS3 p84' ok84 G3 os3 hos3 Dx2 hx3 l1x2 tkx1x1 Dx1 hx2 l1x1 D' hx1x1 l1 tkx1 hx1 mmA tvA hB tkB mmB tvB q1 q2 q3 q4 q5 q6 q7 q8 htm tg hg9 tkg9 gF ND g' L' h' FG' F' N' B' X' T' lifted qk ek tk Tc' kX hE tkE FE vS2 NE i1S
      k_steps
      change wpAny _ _ _ _ _ _
      (with_reducible rename Fr _ _ _ _ => F5)
      (with_reducible rename News _ _ _ _ => N5)
      refine' LCg.ListComp_U ?lF ?lb ?lc ?ld ?le ?lf ?_ ?li
      case lF => exact F5
      case lb => rfl
      case lc => decide
      case ld => rfl
      case le => decide
      case lf => rfl
      case li => exact fun _ => rfl
      k_steps
      change LCg.CompSrc _ _ _ _ _ _ _ _ _ _ _ _ _ _
      (with_reducible rename Fr _ _ _ _ => F5)
      (with_reducible rename News _ _ _ _ => N5)
      (with_reducible rename IsRange _ _ _ _ _ _ _ _ => R5)
      try dsimp only
      refine' LCg.CompSrc.range (n := n + 1) ?mh ?mF ?mN ?mr ?ms ?mn ?mz ?_
      case mh => rfl
      case mF => exact F5
      case mN => exact N5
      case mr => exact R5
      case ms => exact small_one (by omega) (by omega) (by omega) (by omega)
      case mn => rw [rangeSize_one]; split <;> omega
      case mz => show n + 1 ≤ 2 ^ 24; omega
      intro g9
      refine' compRest_same (fun j ts => IntsAre ts (termTo fs n i j)) (n + 1) ?cS ?cfin ?cstep _ 0 [] ?ce0 ?ce1
      case cS => trivial
      case ce0 => exact Nat.zero_add _
      case ce1 => exact .nil
      case cstep =>
        rintro j tsj v Ij oIj Cj oCj Dj mj hj tkj E' hjn hstr ⟨tv9, rfl⟩ hCj hmj Fj Nj offj nej
        rw [Int.zero_add] at hmj
        clear F5 N5 R5
        try dsimp only
        k_steps
        change wpAny _ _ _ _ _ _
        (with_reducible rename News _ _ _ _ => Nq)
        refine ksa_sub (D := Df) (n := ys.length) Nq ?sm hfs (by omega) (by omega) (by omega) (fun tq => ?_) ?ss
        case sm => k_mem
        case ss => with_unfolding_all rfl
        rw [Int.toNat_natCast]
        have hfj : -1000 ≤ fs.getD j 0 ∧ fs.getD j 0 ≤ 1000 := by
          have hjl : j < fs.length := by omega
          rw [List.getD_eq_getElem?_getD, List.getElem?_eq_getElem hjl]
          exact hfb _ (List.getElem_mem hjl)
        try dsimp only
        k_steps
        change wpAny _ _ _ _ _ _
        refine' pow_nat (e := n - j) ?p1 ?p2 ?p3 ?_
        case p1 => omega
        case p2 => omega
        case p3 => omega
        try dsimp only
        change wpAny _ _ _ _ _ _
        k_steps
        try dsimp only
        refine' TurnC.intro ?tF ?tN ?tS ?tJ
        case tF => assumption
        case tN => assumption
        case tS => exact fun p hp => hp
        case tJ => rw [termTo_succ, ← Int.natCast_pow]; exact ints_snoc hstr _ _
      intro tsl htl Dt hht tkt Ft Nt offt
      clear F5 N5 R5
      try dsimp only
      change wpAny _ _ _ _ _ _
      k_steps
      change wpAny _ _ _ _ _ _
      (with_reducible rename Fr _ _ _ _ => F5)
      (with_reducible rename News _ _ _ _ => N5)
      refine sum_lst rfl ⟨_, (N5 (Dt, LCg.lst tsl) (.head _)).1, rfl, _, rfl⟩ htl fun h' tkh t hk => ?_
      have F7 := F5.keeps hk
      have N7 := News.grown N5 hk
      clear F5 N5 hk
      try dsimp only
      change wpAny _ _ _ _ _ _
      k_steps
      change wpAny _ _ _ _ _ _
      (with_reducible rename Fr _ _ _ _ => F6)
      (with_reducible rename News _ _ _ _ => N6)
      have N8 := news_mem (l' := (_, o7') :: (I, oI) :: (x, pileO dx vsP epP) :: (dx, dictP hsP tkP tP) :: (aS, W.listOf (List.toArray vS2) kS) :: (aM, W.listOf (List.toArray vM) kM) :: (84, tabObj p84') :: (91, tabObj p91') :: (lj, W.listOf (List.toArray zs) kj) :: (_, o6j) :: (Df, LCg.lst ys) :: (_, o5) :: (_, o4) :: (_, o3) :: (rest ++ rp)) N6 (by
        (repeat (refine List.forall_mem_cons.mpr ⟨by k_mem, ?_⟩))
        exact fun p hp => by repeat (first | exact hp | apply List.Mem.tail))
      obtain ⟨mmC, twC, tvC, FC, CC, vC⟩ := packC (wh := wholeP fs n (i + 1)) (y := Str.ofString "product") F6 q1 q2 q3 q4 q5 q6 rfl q8 rfl
      clear N6 F6 q1 q2 q3 q4 q5 q6 q7 q8 htl offt
    repeat (rename _ => x; revert x)
    exact Keep.out
end
section
local macro_rules | `(tactic| walk_at "call ref") => `(tactic| (first | ((with_reducible show wpAny _ _ (PySem.call (Value.ref 168) _) _ _ _); (refine halt ?_)) | ((with_reducible show wpAny _ _ (PySem.call (Value.ref 154) _) _ _ _); (refine halt ?_)) | ((with_reducible show wpAny _ _ (PySem.call (Value.ref 147) _) _ _ _); (refine halt ?_))))
local macro_rules | `(tactic| walk_at $s:str) => if ["pyIter ref"].contains s.getString then `(tactic| (refine halt ?_)) else Lean.Macro.throwUnsupported
theorem sLD : SLC.1 := by
  refine ?stp
  case' stp =>
    w_top off
    have hfill : bothOf PySem.Challenge.rw_wu0023_01 Mine.frag.heap_1 := (by k_fill; trivial)
    clear hfill
    with_unfolding_all intro _
    intros
    rename_i o7x1 o6x1 o5x1 o4x1 o3x1 o2 o1 X2 T2 K9 liftedx1 C88 C95 l0 lx2 hx2x1x1x1x1x1x1 l1x2x1 hx1x1x1x1x1x1x1x1x1 o' d' tkx3x1 hx2x1x1x1x1x1 tkx2x1x1x1x1x1 t₁x1x1x1x1x1 u₁x1x1x1x1x1 v₁x1x1x1x1x1 ax1x1x1x1x1x1 h7 z0 z1 z2 z3 z4 z5 z6 t0 t1 t2 t3 t4 t5 t6 D h0 tk0 c7x1 e7 c6 e6 c5 e5 c4x1x1 c3x1x1 mm0 hx1x1x1x1x1x1x1x1 tkx1x1x1x1x1x1x1x1x1 mmx1 o4 o3 m n u3 u4 hmn d3 d4 D2 ws h2 hn3 hlen g7 ys fs hfs hfl hfb Df hf tkf hq1 o5 d5 tkq tq1 hq2 tq2 hq3 hq4 ax1x1x1x1x1 hr tkr t1' t2' t3' hag b hb1 hb2 st hs1 hs2 lr lh lr1 h5 o6 tkx1x1x1x1x1x1x1x1 mm5 tb ts tp eb es ep hx3x1x1x1x1 tkx2x1x1x1x1 t₁x1x1x1x1 u₁x1x1x1x1 v₁x1x1x1x1 ax1x1x1x1 hx2x1x1x1x1 tkjx1 mmj o6j lj zs kj ebj esj epj d6j rest Ri Sr hp tkp x dx hsp tkp2 tpp hx0 hd0 hxd hx hdx hxL hdL hxg hdg hxN hdN hx1x1x1x1x1x1x1 tkx1x1x1x1x1x1x1 hx7 tkx3 t₁x1x1x1 u₁x1x1x1 v₁x1x1x1 ax9 h tkj mmk c1x1 c2x1 c3x1 c4x1 vsPx1 epPx1 hsPx1 tkPx1 tPx1 rpx1 PInx1 SrPx1 hlz hpw hm2x1 lx1 hx6 l1x1x1 aS hS iS Nx1 ax8 ax7 ax6 ax5 lS hx5x1x1 tkx2x1x1x1 l' hx4x1x1x1 l1x4 aM hM iM N ax4 ax3 ax2 ax1x1x1 lM hx3x1x1x1 tkx1x1x1x1x1x1 hx2x1x1x1 hx1x1x1x1x1x1 hx1x1x1x1x1 tkx1x1x1x1x1 t₁x1x1 u₁x1x1 v₁x1x1 ax1x1 hpos I i s' oI t' hi hLI hgI hI hIc mm vS kS vM kM tw o7 c7 p84 p91 i2 vsP epP hsP tkP tP rp PIn SrP Srr h1 o7' d7' hm2 hi27 hx5x1 tkx2x1x1 t₁x1 u₁x1 v₁x1 ax1 g8 ysf Dg hgh tkg hir hir2 s2 tS p91' ok91 os2 hysl g9x1 tslx1 Dtx1 hhtx1 tktx1 tjj kjj hic ar v1 v2 v3 ez col ah hh9 tk9 u1 u2 u3' hx4x1x1 hx3x1x1 hx2x1x1 hx1x1x1x1 tkx1x1x1x1 hx5 tkx2x1 mm9 tt1 tt2 tt3 tt4 Dx3 hx4x1 l1x3 s3 tS3 p84' ok84 G3 os3 hos3 Dx2 hx3x1 l1x2 tkx1x1x1 Dx1 hx2x1 l1x1 D' hx1x1x1 l1 tkx1x1 hx1x1 mmA tvA hB tkB mmB tvB htm tg hg9 tkg9 g' L' hx4 F' N' B' X' T' lifted qk ek tkx2 Tc' kX hE tkE vS2 i1S hx3 tkx1 t₁ u₁ v₁ a g9 tsl Dt hht tkt hx2 tkh t hx1 tk h' N8 mmC twC tvC FC CC vC
    have CC9 := CC
    obtain ⟨r1, r2, r3, r4, r5, r6, r7, r8⟩ := CC9
    refine wpAny_For ?_ (by intro _; rfl)
    k_steps
    change wpAny _ _ _ _ _ _
    (with_reducible rename Fr _ _ _ _ => FA)
    (with_reducible rename News _ _ _ _ => N7)
    have hxA := N7 (x, pileO dx vsP epP) (by k_mem)
    have hdA := N7 (dx, dictP hsP tkP tP) (by k_mem)
    dsimp only at hxA hdA
    refine' iter_pile (x := x) (dx := dx) (vs := vsP) (ep := epP) (od := dictP hsP tkP tP) ?pX ?px ?pd ?_
    case pX => exact X2.keeps FA.keep
    case px => exact hxA.1
    case pd => exact hdA.1
    try dsimp only
    refine' seq_fold (l := x) (ol := pileO dx vsP epP) (items := vsP.toArray) (kl := epP) (fun mm j => CoreB mm (b : Int) (st : Int) 1073741824 (wholeP fs n (i + 1)) ((toldP m n i : Nat) : Int) tb ts tp twC tt4 x aS aM ∧ ∃ tv, mm (Str.ofString "product") = some (.int (prodTo m n i j) tv)) ?fh ?fi ?fI ?fL ?fF ?fC ?fN ?fl ?fd ?fn ?fg ?fs ?_
    case fh => rfl
    case fi => exact ⟨_, Heap.get?_push_size _ rfl, rfl, rfl⟩
    case fI => exact next_is_new FA
    case fL => exact Ne.symm (Nat.ne_of_lt FA.ns.lt)
    case fF => exact FA.push _
    case fN => exact N7.grown (fun _ _ e => Heap.get?_push_of_some _ e)
    case fC => exact ⟨CC, tvC, vC⟩
    case fl => k_mem
    case fd => rfl
    case fn => exact fun p hp => Nat.ne_of_lt (Heap.lt_size (N7 p hp).1)
    case fg =>
      intro s9 v9 Q9 E9 i9 hit9 hv9 hq
      obtain ⟨j9, hj9, ej9⟩ := List.mem_iff_getElem.mp hv9
      have hj9' : j9 < (tsOf m n i).length := by rw [← PIn.1]; exact hj9
      obtain ⟨a9, t91, t92, e91, _⟩ := PIn.2 j9 _ (List.getElem?_eq_getElem hj9')
      have e92 : vsP[j9]? = some v9 := by rw [← ej9]; exact List.getElem?_eq_getElem hj9
      rw [e91] at e92
      injection e92 with e92
      subst e92
      exact wpAny_letOwnedTupleGo_listiter hit9 hq
    case fs =>
      rintro j hj tkj mmj oIj v hv Fj ⟨Cj, tvj, vj⟩ Nj hcj hdj
      clear FA N7
      have hjl : j < (tsOf m n i).length := by
        rw [← PIn.1]
        have := (Array.getElem?_eq_some_iff.mp hv).1
        simpa using this
      obtain ⟨ap, tp1, tp2, eap, hap⟩ := PIn.2 j _ (List.getElem?_eq_getElem hjl)
      have ev0 : v = .ref ap := by
        have : vsP[j]? = some v := by rw [← hv]; simp
        rw [eap] at this
        injection this with this
        exact this.symm
      subst ev0
      have hTup : IsTup hj ap #[.str (tsOf m n i)[j].1 tp1, .str (tsOf m n i)[j].2 tp2] := by
        rcases hap with hap | hap
        · exact ⟨_, Fj.keep _ _ hap, rfl, _, rfl⟩
        · exact ⟨_, (Nj _ (by repeat (first | exact List.mem_append_right _ hap | apply List.Mem.tail))).1, rfl, _, rfl⟩
      have hlq := ts_small (m, n) hmn i hir2 _ (List.getElem_mem hjl)
      obtain ⟨q1, q2, q3, q4, q5, q6, q7, q8⟩ := Cj
      try dsimp only
      k_steps
      (with_reducible rename Fr _ _ _ _ => Fe)
      (with_reducible rename News _ _ _ _ => Ne)
      try dsimp only
      refine' FoldEnd.mk ?eF ?eN ?eS ?eC
      case eF => exact Fe
      case eN => exact Ne
      case eS => exact fun p hp => hp
      case eC => exact ⟨⟨q1, q2, q3, q4, q5, q6, q7, q8⟩, _, by rw [prodTo_succ hjl]; rfl⟩
    rintro hB tkB mmB FB ⟨CB, tvB, vB⟩ NB
    clear FA N7 CC vC r1 r2 r3 r4 r5 r6 r7 r8 hxA hdA
    rw [List.size_toArray, PIn.1, ts_len, prod_all (m, n) hmn i hir] at vB
    obtain ⟨q1, q2, q3, q4, q5, q6, q7, q8⟩ := CB
    try dsimp only
    k_steps
    change wpAny _ _ _ _ _ _
    (with_reducible rename Fr _ _ _ _ => FC)
    (with_reducible rename News _ _ _ _ => NC)
    have hSA := NC (aM, W.listOf (List.toArray vM) kM) (by k_mem)
    refine' K_getitem ?ax ?aT ?ak ?aa ?ah ?ai ?aj ?ak2 ?aA ?ad ?au ?_
    case ax => exact X2
    case aT => exact T2
    case ak => exact FC.keep
    case aa => exact hSA.2.2
    case ah => exact hSA.1
    case ai => exact i2
    case aj => rw [marksP_len]; exact htm
    case ak2 => omega
    case aA => rfl
    case ad => simp only [depth_deeper]; decide
    case au => simp only [units_deeper]; decide
    intro tg hg9 tkg9 hkg
    have FD := FC.keeps hkg
    have ND := News.grown NC hkg
    clear FC NC hSA hkg
    try dsimp only
    change wpAny _ _ _ _ _ _
    k_steps
    change wpAny _ _ _ _ _ _
    (with_reducible rename Fr _ _ _ _ => FC)
    (with_reducible rename News _ _ _ _ => NC)
    have hSA := NC (aM, W.listOf (List.toArray vM) kM) (by k_mem)
    refine' K_setitem ?dx ?dT ?dk ?da ?dh ?di ?dj ?dk2 ?dA ?dd ?du ?_
    case dx => exact X2
    case dT => exact T2
    case dk => exact FC.keep
    case da => exact hSA.2.2
    case dh => exact hSA.1
    case di => exact i2
    case dj => rw [marksP_len]; exact htm
    case dk2 => omega
    case dA => rfl
    case dd => simp only [depth_deeper]; decide
    case du => simp only [units_deeper]; decide
    intro hE tkE hkE hSE i2'
    have FE := fr_x FC hkE hSA.2.2 (Ne.symm hSA.2.1)
    have NE0 := news_mem (l' := (_, o7') :: (I, oI) :: (x, pileO dx vsP epP) :: (dx, dictP hsP tkP tP) :: (aS, W.listOf (List.toArray vS2) kS) :: (84, tabObj p84') :: (91, tabObj p91') :: (lj, W.listOf (List.toArray zs) kj) :: (_, o6j) :: (Df, LCg.lst ys) :: (_, o5) :: (_, o4) :: (_, o3) :: (rest ++ rp)) NC (by
      (repeat (refine List.forall_mem_cons.mpr ⟨by k_mem, ?_⟩))
      exact fun p hp => by repeat (first | exact hp | apply List.Mem.tail))
    have NE := news_cons (p := (aM, W.listOf (List.toArray _) kM)) ⟨hSE, hSA.2⟩ (news_but1 NE0 hkE (off_obj NE0 hSA.1 (List.forall_mem_cons.mpr ⟨cell_no d7' rfl, List.forall_mem_cons.mpr ⟨cls_no (by rw [hIc.1]; intro q; injection q with q; exact absurd q (by decide)), List.forall_mem_cons.mpr ⟨cls_no (by intro q; first | cases q | (injection q with q; exact absurd q (by decide))), List.forall_mem_cons.mpr ⟨cls_no (by intro q; first | cases q | (injection q with q; exact absurd q (by decide))), List.forall_mem_cons.mpr ⟨.inr (Nat.ne_of_lt lM.2.1), List.forall_mem_cons.mpr ⟨cls_no (by intro q; first | cases q | (injection q with q; exact absurd q (by decide))), List.forall_mem_cons.mpr ⟨cls_no (by intro q; first | cases q | (injection q with q; exact absurd q (by decide))), List.forall_mem_cons.mpr ⟨.inr (Nat.ne_of_lt lM.2.2.2.2.2.1), List.forall_mem_cons.mpr ⟨cell_no d6j rfl, List.forall_mem_cons.mpr ⟨.inr (Nat.ne_of_lt lM.2.2.2.2.2.2.2.1), List.forall_mem_cons.mpr ⟨cell_no d5 rfl, List.forall_mem_cons.mpr ⟨cell_no d4 rfl, List.forall_mem_cons.mpr ⟨cell_no d3 rfl, seq_no Srr (by intro q; injection q with q; exact absurd q (by decide))⟩⟩⟩⟩⟩⟩⟩⟩⟩⟩⟩⟩⟩)))
    clear FC NC NE0 hSA hkE hSE i2
    have i2S : IntsAre _ (marksP m n (i + 1)) := i2'
    clear i2' vB
    generalize vM.set _ _ = vM2 at NE i2S
    try dsimp only
    change wpAny _ _ _ _ _ _
    k_steps
    change wpAny _ _ _ _ _ _
    (with_reducible rename Fr _ _ _ _ => FG)
    (with_reducible rename News _ _ _ _ => NG)
    have hxA := NG (x, pileO dx vsP epP) (by k_mem)
    have hdA := NG (dx, dictP hsP tkP tP) (by k_mem)
    have Nrp := news_mem (l' := rp) NG (fun p hp => by repeat (first | exact List.mem_append_right _ hp | apply List.Mem.tail))
    obtain ⟨fg1, fg2, fg3⟩ := fig_all (m, n) hmn i hir
    dsimp only at fg1 fg2 fg3 hxA hdA
    have hlf : ∀ r ∈ (lastFig m n i).1 :: (lastFig m n i).2, r ∈ tsOf m n i := by
      intro r hr
      rw [fg1]
      rcases List.mem_cons.mp hr with rfl | hr
      · simp
      · simp [hr]
    refine' K_more (q0 := (lastFig m n i).1) (rs0 := (lastFig m n i).2) ?gX ?gT ?gk ?gx ?gd ?gn ?gP ?gl ?gr ?g2 ?gm ?gnn ?gA ?gde ?gu ?_
    case gX => exact X2
    case gT => exact T2
    case gk => exact FG.keep
    case gx => exact hxg
    case gd => exact hdg
    case gn => exact hxd
    case gP => exact pile_mk fg1.symm hxA.1 hdA.1 (pairs_of FG Nrp PIn)
    case gl =>
      have := congrArg List.length fg1
      rw [ts_len] at this
      simp at this
      omega
    case gr => intro r hr; have := ts_small (m, n) hmn i hir2 r (hlf r hr); omega
    case g2 => omega
    case gm => omega
    case gnn => omega
    case gA => rfl
    case gde => simp only [depth_deeper]; decide
    case gu => simp only [units_deeper]; decide
    intro hH tkH c9 tc1 tc2 hkH PH hcx hcH
    rw [fg2] at PH
    have FH := fr_x FG hkH hxg (Ne.symm hxL)
    have NH0 := news_mem (l' := (I, oI) :: (aS, W.listOf (List.toArray vS2) kS) :: (aM, W.listOf (List.toArray vM2) kM) :: (_, o7') :: (84, tabObj p84') :: (91, tabObj p91') :: (lj, W.listOf (List.toArray zs) kj) :: (_, o6j) :: (Df, LCg.lst ys) :: (_, o5) :: (_, o4) :: (_, o3) :: rest) NG (by
      (repeat (refine List.forall_mem_cons.mpr ⟨by k_mem, ?_⟩))
      exact fun p hp => by repeat (first | exact List.mem_append_left _ hp | apply List.Mem.tail))
    have NH := news_but1 NH0 hkH (off_obj NH0 hxA.1 (List.forall_mem_cons.mpr ⟨cls_no (by rw [hIc.1]; intro q; cases q), List.forall_mem_cons.mpr ⟨cls_no (by intro q; cases q), List.forall_mem_cons.mpr ⟨cls_no (by intro q; cases q), List.forall_mem_cons.mpr ⟨cell_no d7' rfl, List.forall_mem_cons.mpr ⟨cls_no (by intro q; cases q), List.forall_mem_cons.mpr ⟨cls_no (by intro q; cases q), List.forall_mem_cons.mpr ⟨cls_no (by intro q; cases q), List.forall_mem_cons.mpr ⟨cell_no d6j rfl, List.forall_mem_cons.mpr ⟨cls_no (by intro q; cases q), List.forall_mem_cons.mpr ⟨cell_no d5 rfl, List.forall_mem_cons.mpr ⟨cell_no d4 rfl, List.forall_mem_cons.mpr ⟨cell_no d3 rfl, seq_no Sr (by intro q; cases q)⟩⟩⟩⟩⟩⟩⟩⟩⟩⟩⟩⟩))
    clear FG NG NH0 Nrp hxA hdA hkH
    try dsimp only
    change wpAny _ _ _ _ _ _
    obtain ⟨vsH, epH, hsH, tkH2, tH, bH1, bH2, bH3⟩ := PH
    refine wpAny_storeName_local rfl FH.ns (fun h8 hn8 hs8 => ?_) rfl
    have F8 : Fr _ _ h8 _ := ⟨hn8, fun b o e => hs8.extBut b o (Nat.ne_of_lt (Nat.lt_of_lt_of_le (Heap.lt_size e) FH.above)) (FH.keep b o e), FH.above⟩
    have hcL := tup_ne_L FH.ns hcH
    have c8 := hs8.extBut _ _ hcL hcH
    have x8 := hs8.extBut _ _ hxL bH1
    have d8 := hs8.extBut _ _ hdL bH2
    have p8 := pairs_frame bH3 FH.ns (fun b o hb e => hs8.extBut b o hb e)
    have N8 : News _ _ h8 _ := fun p hp => ⟨hs8.extBut _ _ (NH p hp).2.1 (NH p hp).1, (NH p hp).2⟩
    clear FH NH bH1 bH2 bH3 hcH hn8 hs8
    try dsimp only
    change wpAny _ _ _ _ _ _
    k_steps
    (with_reducible rename Fr _ _ _ _ => F9)
    (with_reducible rename News _ _ _ _ => N9)
    show TurnEnd _ _ _ _ _
    refine ⟨⟨_, vS2, kS, vM2, kM, twC, .ref c9, o7', _, p84', p91', F9, ⟨q1, q2, q3, q4⟩, q5, q6, q7, rfl, d7', fun p hp => N9 p (.tail _ hp), i1S, i2S, ok84, ok91, ⟨vsH, epH, _, _, _, x8, d8, p8⟩, G3, hos3, fun hl => ?_⟩, (N9 _ (.head _)).1⟩
    rw [fg3 hl] at c8
    exact ⟨c9, tc1, tc2, rfl, c8⟩
end
section
local macro_rules | `(tactic| walk_at $s:str) => if ["pyIter ref", "exec For Name Call cons nil", "subscriptTail Name Constant ref int", "binaryOp Pow int int", "subscriptTail Name Name ref int", "compareOp NotEq int int", "compareOp Eq ref ref", "call type:str", "binaryOp Mult str int", "compareOp Eq str str"].contains s.getString then `(tactic| (refine halt ?_)) else Lean.Macro.throwUnsupported
theorem sLE : SL7.1.2 := by
  w_top off
  have hfill : bothOf PySem.Challenge.rw_wu0023_01 Mine.frag.heap_1 := (by k_fill; trivial)
  clear hfill
  with_unfolding_all intro _
  intros
  rename_i o7 o6x1 o5x1 o4x1 o3x1 o2 o1 X2 T2 K9 lifted C88 C95 l0 lx2 hx2x1x1x1 l1x2 hx1x1x1x1 o' d' tkx3x1 hx2x1x1 tkx2x1x1 t₁x1x1x1 u₁x1x1x1 v₁x1x1x1 ax1x1x1x1x1 h7 z0 z1 z2 z3 z4 z5 z6 t0 t1 t2 t3 t4 t5 t6 D h0 tk0 c7 e7 c6 e6 c5 e5 c4x1 c3x1 mm0 hx1x1x1 tkx1x1x1x1 mm o4 o3 m n u3 u4 hmn d3 d4 D2 ws h2 hn3 hlen g7 ys fs hfs hfl hfb Df hf tkf hq1 o5 d5 tkq tq1 hq2 tq2 hq3 hq4 ax1x1x1x1 hr tkr t1' t2' t3' hag b hb1 hb2 st hs1 hs2 lr lh lr1 h5 o6 tkx1x1x1 mm5 tb ts tp eb es ep hx3x1 tkx2x1 t₁x1x1 u₁x1x1 v₁x1x1 ax1x1x1 hx2x1 tkjx1 mmj o6j lj zs kj ebj esj epj d6j rest Ri Sr hp tkp x dx hsp tkp2 tpp hx0 hd0 hxd hx hdx hxL hdL hxg hdg hxN hdN hx1x1 tkx1x1 hx7 tkx3 t₁x1 u₁x1 v₁x1 ax9 h tkj mmk c1 c2 c3 c4 vsP epP hsP tkP tP rp PIn SrP hlz hpw hm2 lx1 hx6 l1x1 aS hS iS Nx1 ax8 ax7 ax6 ax5 lS hx5 tkx2 l' hx4 l1 aM hM iM N ax4 ax3 ax2 ax1x1 lM hx3 tkx1 hx2 hx1 h' tk t₁ u₁ v₁ ax1 hpos s' hJ
  obtain ⟨mmZ, vS, kS, vM, kM, twZ, vl, o7z, c7z, p84, p91, FZ, CZ, e1, e2, e3, e4, d7, NZ, i1, i2, k1, k2, PZ, GZ, hosZ, laZ⟩ := hJ
  obtain ⟨c1Z, c2Z, c3Z, c4Z⟩ := CZ
  obtain ⟨vsZ, epZ, hsZ, tkZ, tZ, bZ1, bZ2, bZ3⟩ := PZ
  obtain ⟨cz, tz1, tz2, rfl, hcz⟩ := laZ rfl
  obtain ⟨rz, Nrz, PIz, PIc, Srz⟩ := pairs_rest2 FZ bZ3 (pairs_one hcz)
  have N1 := news_cons (p := (x, pileO dx vsZ epZ)) ⟨bZ1, hxL, hxg⟩ (news_cons (p := (dx, dictP hsZ tkZ tZ)) ⟨bZ2, hdL, hdg⟩ (news_app NZ Nrz))
  simp only [List.cons_append, List.nil_append] at N1
  have hpos2 : 0 < m ^ n := Nat.pow_pos (by omega)
  clear NZ Nrz bZ1 bZ2 bZ3
  k_steps
  change wpAny _ _ _ _ _ _
  (with_reducible rename News _ _ _ _ => N2)
  refine ksa_sub (D := Df) (n := ys.length) N2 ?sm hfs (by omega) (by omega) (by omega) (fun tq => ?_) ?ss
  case sm => k_mem
  case ss => with_unfolding_all rfl
  try dsimp only
  change wpAny _ _ _ _ _ _
  k_steps
  change wpAny _ _ _ _ _ _
  have Srz9 : AllSeq (rest ++ rz) := fun p hp => by
    rcases List.mem_append.mp hp with hp | hp
    · exact Sr p hp
    · exact Srz p hp
  refine wpAny_For ?_ (by intro _; rfl)
  k_steps
  change wpAny _ _ _ _ _ _
  (with_reducible rename Fr _ _ _ _ => F3)
  (with_reducible rename News _ _ _ _ => N3)
  (with_reducible rename IsRange _ _ _ _ _ _ _ _ => R3)
  refine' range_fold (fun mm k => CoreE mm (wholeP fs n (m ^ n)) twZ x aS aM (.ref cz) ∧ ∃ t, mm (Str.ofString "times") = some (.int (timesTo (fs.getD 0 0) m k) t)) ?ha ?hr9 ?hc9 ?hF9 ?hC9 ?hN9 ?hnf9 ?hs9 ?_ ?ht9
  case ha => rfl
  case hr9 => exact R3
  case hc9 => omega
  case hF9 => exact F3
  case hN9 => exact N3
  case hC9 => exact ⟨⟨c4Z, e1, e2, e3, e4⟩, _, rfl⟩
  case hnf9 => exact List.forall_mem_cons.mpr ⟨.inr (fun fs w => by cases w), List.forall_mem_cons.mpr ⟨.inr (fun fs w => by cases w), List.forall_mem_cons.mpr ⟨.inr (fun fs w => by cases w), List.forall_mem_cons.mpr ⟨.inr (fun fs w => by cases w), List.forall_mem_cons.mpr ⟨cell_nf d7, List.forall_mem_cons.mpr ⟨.inl (by intro w; cases w), List.forall_mem_cons.mpr ⟨.inl (by intro w; cases w), List.forall_mem_cons.mpr ⟨.inr (fun fs w => by cases w), List.forall_mem_cons.mpr ⟨cell_nf d6j, List.forall_mem_cons.mpr ⟨.inr (fun fs w => by cases w), List.forall_mem_cons.mpr ⟨cell_nf d5, List.forall_mem_cons.mpr ⟨cell_nf d4, List.forall_mem_cons.mpr ⟨cell_nf d3, seq_nf Srz9⟩⟩⟩⟩⟩⟩⟩⟩⟩⟩⟩⟩⟩
  case ht9 => exact fun _ _ => rfl
  case hs9 =>
    rintro I9 k9 h9 tk9 mm9 oI9 t9 hk9 F9 ⟨⟨q1, q2, q3, q4, q5⟩, t10, q6⟩ N9
    clear F3 N3 R3
    have hpk := menu_pow hmn (i := k9) (by omega)
    have hpk2 : ((m ^ k9 : Nat) : Int) ≤ 27 := by exact_mod_cast hpk
    have hpk3 : (0 : Int) ≤ ((m ^ k9 : Nat) : Int) := Int.natCast_nonneg _
    try dsimp only
    k_steps
    change wpAny _ _ _ _ _ _
    refine' pow_nat (e := k9) ?p1 ?p2 ?p3 ?_
    case p1 => rfl
    case p2 => omega
    case p3 => omega
    try dsimp only
    change wpAny _ _ _ _ _ _
    generalize hpg : ((m ^ k9 : Nat) : Int) = pk at hpk2 hpk3
    k_steps
    (with_reducible rename Fr _ _ _ _ => Fe)
    (with_reducible rename News _ _ _ _ => Ne)
    try dsimp only
    refine' FoldEnd.mk ?eF ?eN ?eS ?eC
    case eF => exact Fe
    case eN => exact Ne
    case eS => exact fun p hp => hp
    case eC => exact ⟨⟨q1, q2, q3, q4, q5⟩, _, by subst hpg; rfl⟩
  rintro hB tkB mmB FB ⟨⟨q1, q2, q3, q4, q5⟩, tB, q6⟩ NB
  clear F3 N3 R3 c1Z c2Z c3Z c4Z e1 e2 e3 e4
  try dsimp only
  k_steps
  change wpAny _ _ _ _ _ _
  refine' pow_eq (e := n) (half_eq (by omega) (by omega)) ?x2 ?x3 ?x4 ?_
  case x2 => rfl
  case x3 =>
    have : m * (m - 1) ≤ 5 * 4 := Nat.mul_le_mul (by omega) (by omega)
    omega
  case x4 => omega
  try dsimp only
  change wpAny _ _ _ _ _ _
  k_steps
  change wpAny _ _ _ _ _ _
  refine wpAny_For ?_ (by intro _; rfl)
  k_steps
  change wpAny _ _ _ _ _ _
  (with_reducible rename Fr _ _ _ _ => F3)
  (with_reducible rename News _ _ _ _ => N3)
  (with_reducible rename IsRange _ _ _ _ _ _ _ _ => R3)
  have hf0 : -1000 ≤ fs.getD 0 0 ∧ fs.getD 0 0 ≤ 1000 := by
    have hjl : 0 < fs.length := by omega
    rw [List.getD_eq_getElem?_getD, List.getElem?_eq_getElem hjl]
    exact hfb _ (List.getElem_mem hjl)
  have hts := times_small hmn hf0.1 hf0.2
  refine' range_fold (fun mm k => CoreE mm (wholeP fs n (m ^ n)) twZ x aS aM (.ref cz) ∧ (∃ t, mm (Str.ofString "times") = some (.int (timesTo (fs.getD 0 0) m n) t)) ∧ ∃ t, mm (Str.ofString "power") = some (.int ((powerP m n : Nat) : Int) t)) ?ka ?kr9 ?kc9 ?kF9 ?kC9 ?kN9 ?knf9 ?ks9 ?_ ?kt9
  case ka => rfl
  case kr9 => exact R3
  case kc9 => omega
  case kF9 => exact F3
  case kN9 => exact N3
  case kC9 => exact ⟨⟨q1, q2, q3, q4, q5⟩, ⟨_, q6⟩, _, rfl⟩
  case knf9 => exact List.forall_mem_cons.mpr ⟨.inr (fun fs w => by cases w), List.forall_mem_cons.mpr ⟨.inr (fun fs w => by cases w), List.forall_mem_cons.mpr ⟨.inr (fun fs w => by cases w), List.forall_mem_cons.mpr ⟨.inr (fun fs w => by cases w), List.forall_mem_cons.mpr ⟨cell_nf d7, List.forall_mem_cons.mpr ⟨.inl (by intro w; cases w), List.forall_mem_cons.mpr ⟨.inl (by intro w; cases w), List.forall_mem_cons.mpr ⟨.inr (fun fs w => by cases w), List.forall_mem_cons.mpr ⟨cell_nf d6j, List.forall_mem_cons.mpr ⟨.inr (fun fs w => by cases w), List.forall_mem_cons.mpr ⟨cell_nf d5, List.forall_mem_cons.mpr ⟨cell_nf d4, List.forall_mem_cons.mpr ⟨cell_nf d3, seq_nf Srz9⟩⟩⟩⟩⟩⟩⟩⟩⟩⟩⟩⟩⟩
  case kt9 => exact fun _ _ => rfl
  case ks9 =>
    rintro I9 k9 h9 tk9 mm9 oI9 t9 hk9 F9 ⟨⟨r1, r2, r3, r4, r5⟩, ⟨t10, r6⟩, t11, r7⟩ N9
    clear F3 N3 R3 q1 q2 q3 q4 q5 q6
    try dsimp only
    k_steps
    change wpAny _ _ _ _ _ _
    (with_reducible rename News _ _ _ _ => Nq)
    refine ksa_sub (D := aS) (n := kS) Nq ?sm1 i1 (by omega) (by rw [sumsP_len]; omega) (by omega) (fun tq => ?_) ?ss1
    case sm1 => k_mem
    case ss1 => with_unfolding_all rfl
    rw [Int.toNat_natCast]
    try dsimp only
    k_steps
    change wpAny _ _ _ _ _ _
    (with_reducible rename News _ _ _ _ => Nq)
    refine ksa_sub (D := aM) (n := kM) Nq ?sm2 i2 (by omega) (by rw [marksP_len]; omega) (by omega) (fun tq => ?_) ?ss2
    case sm2 => k_mem
    case ss2 => with_unfolding_all rfl
    rw [Int.toNat_natCast]
    try dsimp only
    k_steps
    change wpAny _ _ _ _ _ _
    refine ne_int_same (law_end hmn hfl k9 hk9) ?_
    try dsimp only
    k_steps
    (with_reducible rename Fr _ _ _ _ => Fe)
    (with_reducible rename News _ _ _ _ => Ne)
    try dsimp only
    refine' FoldEnd.mk ?zF ?zN ?zS ?zC
    case zF => exact Fe
    case zN => exact Ne
    case zS => exact fun p hp => hp
    case zC => exact ⟨⟨r1, r2, r3, r4, r5⟩, ⟨_, r6⟩, _, r7⟩
  rintro hC tkC mmC FC ⟨⟨r1, r2, r3, r4, r5⟩, -, -⟩ NC
  clear F3 N3 R3 q1 q2 q3 q4 q5 q6
  try dsimp only
  k_steps
  change wpAny _ _ _ _ _ _
  (with_reducible rename Fr _ _ _ _ => F3)
  (with_reducible rename News _ _ _ _ => N3)
  have hcz3 := pairs_of F3 (news_mem (l' := rz) N3 (fun p hp => by repeat (first | exact List.mem_append_right _ hp | apply List.Mem.tail))) PIc
  obtain ⟨cz', tz1', tz2', ecz, hcz3⟩ := hcz3.2 0 _ rfl
  obtain rfl : cz = cz' := by injection ecz with ecz; injection ecz
  have hnt := (N3 _ (.head _)).1
  refine eq_tup2 rfl rfl ⟨_, hcz3, rfl, 0, rfl⟩ ⟨_, hnt, rfl, 0, rfl⟩ ?cun ?_
  case cun => simp only [units_deeper]; decide
  clear hcz3 hnt
  try dsimp only
  change wpAny _ _ _ _ _ _
  k_steps
  change wpAny _ _ _ _ _ _
  (with_reducible rename Fr _ _ _ _ => F5)
  (with_reducible rename News _ _ _ _ => N5)
  have hir2 : m ^ n ∈ List.range (m ^ n + 1) := List.mem_range.mpr (Nat.lt_succ_self _)
  have Nrp := news_mem (l' := rz) N5 (fun p hp => by repeat (first | exact List.mem_append_right _ hp | apply List.Mem.tail))
  have hxA := (N5 (x, pileO dx vsZ epZ) (by k_mem)).1
  have hdA := (N5 (dx, dictP hsZ tkZ tZ) (by k_mem)).1
  have h91 := N5 (91, tabObj p91) (by k_mem)
  refine' K_str ?yX ?yT ?yC ?yk0 ?yx0 ?yd0 ?yP0 ?yxd ?yP ?yhP ?yok ?ylen ?yfit ?ysz ?yG ?yA0 ?ydep ?yun ?_
  case yX => exact X2
  case yT => exact T2
  case yC => exact C95
  case yk0 => exact F5.keep
  case yx0 => exact hxg
  case yd0 => exact hdg
  case yP0 => exact h91.2.2
  case yxd => exact hxd
  case yP => exact pile_mk rfl hxA hdA (pairs_of F5 Nrp PIz)
  case yhP => exact h91.1
  case yok => exact k2
  case ylen => intro q hq; have := ts_small (m, n) hmn _ hir2 q hq; omega
  case yfit => exact ts_join (m, n) hmn _ hir2
  case ysz => show (tsOf m n (m ^ n)).length ≤ 2 ^ 24; rw [ts_len]; omega
  case yG => exact GZ
  case yA0 => rfl
  case ydep => simp only [depth_deeper]; decide
  case yun => simp only [units_deeper]; decide
  intro s2 tS p91' hk2 h91' ok91 G2 os2
  have F6 := fr_x F5 hk2 h91.2.2 (Ne.symm h91.2.1)
  have N6 := news_mem (l' := (x, pileO dx vsZ epZ) :: (dx, dictP hsZ tkZ tZ) :: (aS, W.listOf (List.toArray vS) kS) :: (aM, W.listOf (List.toArray vM) kM) :: (_, o7z) :: (84, tabObj p84) :: (lj, W.listOf (List.toArray zs) kj) :: (_, o6j) :: (Df, LCg.lst ys) :: (_, o5) :: (_, o4) :: (_, o3) :: (rest ++ rz)) N5 (by
    (repeat (refine List.forall_mem_cons.mpr ⟨by k_mem, ?_⟩))
    exact fun p hp => by repeat (first | exact hp | apply List.Mem.tail))
  have N7 := news_cons (p := (91, tabObj p91')) ⟨h91', h91.2⟩ (news_but1 N6 hk2 (off_tab N6 h91.1 (List.forall_mem_cons.mpr ⟨.inl (fun fs w => by cases w), List.forall_mem_cons.mpr ⟨.inl (fun fs w => by cases w), List.forall_mem_cons.mpr ⟨.inl (fun fs w => by cases w), List.forall_mem_cons.mpr ⟨.inl (fun fs w => by cases w), List.forall_mem_cons.mpr ⟨cell_tab d7, List.forall_mem_cons.mpr ⟨.inr (show (84 : Nat) ≠ 91 by decide), List.forall_mem_cons.mpr ⟨.inl (fun fs w => by cases w), List.forall_mem_cons.mpr ⟨cell_tab d6j, List.forall_mem_cons.mpr ⟨.inl (fun fs w => by cases w), List.forall_mem_cons.mpr ⟨cell_tab d5, List.forall_mem_cons.mpr ⟨cell_tab d4, List.forall_mem_cons.mpr ⟨cell_tab d3, seq_tab Srz9⟩⟩⟩⟩⟩⟩⟩⟩⟩⟩⟩⟩)))
  have hosE := os2.trans hosZ
  clear F5 N5 N6 Nrp hxA hdA h91 h91' hk2
  try dsimp only at N7 hosE
  change wpAny _ _ _ _ _ _
  k_steps
  change wpAny _ _ _ _ _ _
  refine SB.mul (mulOk_o (by omega) (by omega)) (fun tq kq => ?_)
  try dsimp only
  change wpAny _ _ _ _ _ _
  k_steps
  change wpAny _ _ _ _ _ _
  refine eq_str_same (end_text (m, n) hmn) ?_
  try dsimp only
  k_steps
  (with_reducible rename Fr _ _ _ _ => Ff)
  (with_reducible rename News _ _ _ _ => Nf)
  have g84 := (Nf (84, tabObj p84) (by k_mem)).1
  have g91 := (Nf (91, tabObj p91') (by k_mem)).1
  refine ⟨rfl, fun b o e => Ff.keep b o e, hosE, G2, ?_⟩
  exact ends_tabs g84 g91
end
end
end
end Mine
end
section
open PySem PySem.W PyProof.Rows
set_option maxRecDepth 100000
set_option maxHeartbeats 8000000
namespace Mine
theorem back {G : Prop} (s : {P : Prop // P → G}) (h : s.1) : G := s.2 h
theorem back2 {G : Prop} (s : {P : Prop × Prop // P.1 → P.2 → G}) (h : s.1.1) (k : s.1.2) : G := s.2 h k
theorem walked : TT := back S0 (back SL1 (back SL2 (back SL3 (back SL4 (back SL5 (back SL6 (back2 SL7 (back SL8 (back SL9 (back SLA (back SLB (back SLC sLD))))) sLE)))))))
end Mine
end
open PySem PySem.W PyProof.Rows
set_option maxRecDepth 100000 in
set_option maxHeartbeats 8000000 in
theorem PySem.Challenge.cw_wu0023_01_holds : PySem.Challenge.rw_wu0023_01.Holds :=
  Mine.hd Mine.walked
