import PyProof.Rows.All
import Wide.All
import OpenK.AllK
import Wide.FinOn
import KE.KDictList
import Lean
import PySem.Challenge.RW_in0194_01
set_option Elab.async false
section
open PySem PySem.W PyProof.Rows
set_option Elab.async false
set_option maxRecDepth 100000
namespace Mine
theorem two_sides {α β γ : Type _} {x : Option α} {f : α → β} {g : α → γ} {b : β} {c : γ} (h1 : x.map f = some b) (h2 : x.map g = some c) : x.map (fun s => (f s, g s)) = some (b, c) := by
  cases x with
  | none => cases h1
  | some s => simp only [Option.map_some, Option.some.injEq] at h1 h2 ⊢; rw [h1, h2]
noncomputable def laidT (l : List Obj) : BT → Nat → Option (BT × Nat) :=
  @List.rec Obj (fun _ => BT → Nat → Option (BT × Nat)) (fun t n => some (t, n))
    (fun o _ ih t n => @Bool.rec (fun _ => Option (BT × Nat)) none (ih (t.ins n o) (n + 1)) ((t.ins n o).get n).isSome) l
theorem laidT_spec {life : Life} : ∀ {l : List Obj} {t : BT} {n : Nat} {t' : BT} {n' : Nat}, laidT l t n = some (t', n') → absHeap t' n' life = ⟨(absHeap t n life).objs ++ l.toArray, life⟩
  | [], t, n, t', n', h => by
    obtain ⟨rfl, rfl⟩ : t = t' ∧ n = n' := by simpa [laidT] using h
    simp [absHeap]
  | o :: l, t, n, t', n', h => by
    change @Bool.rec (fun _ => Option (BT × Nat)) none (laidT l (t.ins n o) (n + 1)) ((t.ins n o).get n).isSome = _ at h
    cases e : ((t.ins n o).get n).isSome with
    | false => rw [e] at h; cases h
    | true =>
      rw [e] at h
      rw [laidT_spec (life := life) h, absHeap_ins e]
      simp [Heap.push]
noncomputable def runT (st : SharedT → Thread → Option (SharedT × Thread)) (n₀ : Nat) (ann : Option Value) (n : Nat) : SharedT → Thread → Option SharedT :=
  @Nat.rec (fun _ => SharedT → Thread → Option SharedT) (fun _ _ => none)
    (fun _ ih s t => match through t with
      | true => some s
      | false => match stepOk n₀ ann t with
        | false => none
        | true => match st s t with
          | some (s', t') => ih s' t'
          | none => none) n
theorem runT_spec {p : Program} {w : World} {n₀ : Nat} {ann : Option Value} : ∀ {n : Nat} {s s' : SharedT} {t : Thread}, runT (stepT (denote treeTable) p w) n₀ ann n s t = some s' → topRun treeTable p w n₀ ann n s.abs t = some s'.abs
  | 0, _, _, _, h => by cases h
  | n + 1, s, s', t, h => by
    change (match through t with
      | true => some s
      | false => match stepOk n₀ ann t with
        | false => none
        | true => match stepT (denote treeTable) p w s t with
          | some (s', t') => runT (stepT (denote treeTable) p w) n₀ ann n s' t'
          | none => none) = _ at h
    unfold topRun
    cases ht : through t with
    | true => rw [ht] at h; cases h; rfl
    | false =>
      rw [ht] at h
      cases hk : stepOk n₀ ann t with
      | false => rw [hk] at h; cases h
      | true =>
        rw [hk] at h
        cases hs : stepT (denote treeTable) p w s t with
        | none => rw [hs] at h; cases h
        | some r =>
          obtain ⟨s₂, t₂⟩ := r
          rw [hs] at h
          rw [stepT_spec hs]
          exact runT_spec h
noncomputable def topT (st : SharedT → Thread → Option (SharedT × Thread)) (p : Program) (N : Nat) (s₀ : Shared) : Option SharedT :=
  @Bool.rec (fun _ => Option SharedT) none
    ((laidT s₀.heap.objs.toList .nil 0).bind fun r => (runT st s₀.heap.objs.size (s₀.heap.nsMap mainGlobals "__annotations__") N ⟨r.1, r.2, s₀.heap.life, s₀.gens, s₀.drawn, s₀.toks, s₀.os⟩ (topStub p)).bind fun s₁ =>
      @Bool.rec (fun _ => Option SharedT) none (some s₁) (staticsOk (importedModules p.main.body) s₀.heap s₁.abs.heap && namesBound p s₁.abs.heap && gensDone s₁.abs && laidKept s₀.heap s₁.abs.heap))
    (s₀.heap.isNs mainGlobals && s₀.gens.size == 0)
theorem topT_spec {p : Program} {w : World} {N : Nat} {s₀ : Shared} {s : SharedT} (h : topT (stepT (denote treeTable) p w) p N s₀ = some s) : topFrom treeTable p w N s₀ = some s.abs := by
  unfold topT at h
  unfold topFrom
  cases e : s₀.heap.isNs mainGlobals && s₀.gens.size == 0 with
  | false => rw [e] at h; cases h
  | true =>
    rw [e] at h
    obtain ⟨r, h1, h2⟩ := Option.bind_eq_some_iff.mp h
    obtain ⟨s₁, h3, h4⟩ := Option.bind_eq_some_iff.mp h2
    have a := laidT_spec (life := s₀.heap.life) (t' := r.1) (n' := r.2) h1
    have b := runT_spec h3
    have c : (SharedT.mk r.1 r.2 s₀.heap.life s₀.gens s₀.drawn s₀.toks s₀.os).abs = s₀ := by
      show (⟨absHeap r.1 r.2 s₀.heap.life, s₀.gens, s₀.drawn, s₀.toks, s₀.os⟩ : Shared) = s₀
      rw [a]
      simp [absHeap, BT.list]
    rw [c] at b
    show ((topRun treeTable p w s₀.heap.objs.size (s₀.heap.nsMap mainGlobals "__annotations__") N s₀ (topStub p)).bind _) = _
    rw [b]
    cases q : (staticsOk (importedModules p.main.body) s₀.heap s₁.abs.heap && namesBound p s₁.abs.heap && gensDone s₁.abs && laidKept s₀.heap s₁.abs.heap) with
    | false => rw [q] at h4; cases h4
    | true =>
      rw [q] at h4
      cases h4
      show (match (staticsOk (importedModules p.main.body) s₀.heap s.abs.heap && namesBound p s.abs.heap && gensDone s.abs && laidKept s₀.heap s.abs.heap) with | true => some s.abs | false => none) = _
      rw [q]
theorem top_map {α β : Type _} {x : Option α} {f : α → Option SharedT} {g : α → Option Shared} {k : Shared → β} {b : β} (e : ∀ a s, f a = some s → g a = some s.abs)
    (h : x.map (fun a => (f a).map (fun s => k s.abs)) = some (some b)) : x.map (fun a => (g a).map k) = some (some b) := by
  cases x with
  | none => cases h
  | some a =>
    simp only [Option.map_some, Option.some.injEq, Option.map_eq_some_iff] at h ⊢
    obtain ⟨s, h1, h2⟩ := h
    exact ⟨_, e a s h1, h2⟩
end Mine
noncomputable def Mine.view : Program := { PySem.Challenge.pw_in0194_01 with main := { PySem.Challenge.pw_in0194_01.main with body := (PySem.Challenge.pw_in0194_01.main.body.zipIdx.filter fun x => [0, 1, 2, 4, 6, 8, 10, 11, 13, 15, 16, 18, 19, 20, 21, 23, 24, 25, 27, 28, 29, 30, 31, 32, 33].contains x.2).map (·.1) } }
namespace Mine
noncomputable def runG {β : Type} (imp : (String → Option Builtin) → Program → World → Nat → Shared → Thread → Option Shared) (fm : Program → Shared → Option Shared) (stT : (Code → Sem Fin) → Program → World → SharedT → Thread → Option (SharedT × Thread)) (den : (String → Option Builtin) → Code → Sem Fin) (tr : String → Option Builtin) (p : Program) (N : Nat) (k : Shared → β) (row : String) (b : Bool) (w : World) : Option (Option β) :=
  ((imp tr (opening p) w N (start (opening p)).1 (start (opening p)).2).bind (fm p)).map (fun s₀ => (topT (stT (den tr) p (w.withFollow row b)) p N s₀).map (fun s => k s.abs))
def Left (H : Hook) (b : Bool) : Prop := ∀ w : World,
  runG PySem.W.Fast.tw10274390034422433532 PySem.W.Fast.tw14289696077712309145 PySem.W.Fast.tw10156331382660048174 PySem.W.Fast.tw11892475500146522536 PySem.W.Fast.tw14364793385576792824 PySem.Challenge.pw_in0194_01 3868
    (fun s => (PySem.W.Fast.tw4187177175401517315 Mine.view [] (importedModules PySem.Challenge.pw_in0194_01.main.body) (fun s => xlAt Mine.view [] s && recOk (RowW.records PySem.Challenge.rw_in0194_01.row.toRowW) s) true s, Hook.obs H s)) "special-get-raises" b w
    = some (some (openGood Mine.view [], Hook.val H (w.withFollow "special-get-raises" b)))
theorem left_of {H : Hook} (h1 : Left H false) (h2 : Left H true) :
    LeftO PySem.Challenge.pw_in0194_01 Mine.view [] (fun s => xlAt Mine.view [] s && recOk (RowW.records PySem.Challenge.rw_in0194_01.row.toRowW) s) (Hook.obs H) (Hook.val H) 3868 true := LeftO.of_split "special-get-raises" fun w => by
  have h1 := h1 w
  have h2 := h2 w
  unfold runG at h1 h2
  rw [← PySem.W.Fast.te10274390034422433532, ← PySem.W.Fast.te14289696077712309145, ← PySem.W.Fast.te4187177175401517315, ← PySem.W.Fast.te10156331382660048174, ← PySem.W.Fast.te11892475500146522536, ← PySem.W.Fast.te14364793385576792824] at h1 h2
  exact two_sides (top_map (k := fun s => (openSeen Mine.view [] (importedModules PySem.Challenge.pw_in0194_01.main.body) (fun s => xlAt Mine.view [] s && recOk (RowW.records PySem.Challenge.rw_in0194_01.row.toRowW) s) true s, Hook.obs H s)) (fun _ _ => topT_spec) h1) (top_map (k := fun s => (openSeen Mine.view [] (importedModules PySem.Challenge.pw_in0194_01.main.body) (fun s => xlAt Mine.view [] s && recOk (RowW.records PySem.Challenge.rw_in0194_01.row.toRowW) s) true s, Hook.obs H s)) (fun _ _ => topT_spec) h2)
abbrev rowM : OpenRow := PySem.Challenge.rw_in0194_01.row
theorem head (H : Hook) {d : DefRec} {kwd : List (Str × Expr)} (hdef : defOf Mine.view rowM.name = some (d, kwd)) (hp : rowM.prog.theDef rowM.name = some (d.params, d.body, d.scope)) (hk : kwWritten? d.params.kwonlyargs d.params.kw_defaults = some kwd)
    (k1 : rowM.wellSaid = true) (hw : rowM.toRowW.promised)
    (hc : Left H false ∧ Left H true ∧ WalkO Mine.view [] (XL Mine.view []) H.says rowM.toRowW d kwd fun f vs => PySem.call f vs) : rowM.Holds :=
  holds_open (q := Mine.view) (loose := []) (Xt := fun s => xlAt Mine.view [] s && recOk (RowW.records rowM.toRowW) s) (XP := XL Mine.view []) (Yf := Hook.obs H) (Ya := Hook.val H) (YP := Hook.says H) (N := 3868) (left_of hc.1 hc.2.1) (Hook.of H) (Hook.keeps H) (fun s e => xl_of s (Bool.and_eq_true_iff.mp e).1) XL.keeps hdef hp hk (fun s e => recFacts_of (Bool.and_eq_true_iff.mp e).2) (by rfl) k1 (by decide +kernel) ⟨rfl, rfl, rfl, rfl, rfl, by decide +kernel⟩ hw hc.2.2
theorem said : OpenLaw.wellSaid PySem.Challenge.rw_in0194_01 = true := by
  rw [PySem.W.Fast.te9446332074065402090]
  kernel_rfl
end Mine
open Mine
local macro_rules | `(tactic| o_law) => `(tactic| refine holds_law said fun said => ?_)
set_option hygiene false in
local macro_rules | `(tactic| o_head $H) => `(tactic| refine head $H (by rfl) (by rfl) (by rfl) (by assumption) ?hw ?hc)
set_option maxHeartbeats 8000000 in
open_top Mine.hd for PySem.Challenge.rw_in0194_01
noncomputable def Mine.hook : Hook := kmHook Mine.hd.heap_1 [2, 3, 33, 35, 36, 38, 39, 47, 50, 55, 56, 58, 59, 61, 62, 63, 65, 66, 68, 69, 70, 71, 72, 73, 74, 77, 79, 80, 82, 83, 84, 91, 93, 94, 96, 97, 98, 99, 100, 103, 110, 112, 113, 115, 116, 117, 119, 120, 122, 123, 124, 126, 127, 129, 130, 131, 132, 133, 136, 138, 139, 141, 142, 143, 145, 146, 148, 149, 150, 152, 153, 155, 156, 157, 159, 160, 162, 163, 164, 166, 167, 169, 170, 171, 173, 174, 176, 177, 178, 180, 181, 183, 184, 185, 187, 188, 190, 191, 195, 197, 198, 200, 201, 202, 204, 205, 207, 208, 209, 211, 212, 214, 215, 216, 218, 219, 221, 222, 223, 225, 226, 228, 229, 230, 232, 233, 235, 236, 237, 239, 240, 242, 243, 244, 246, 247, 249, 250, 251, 253, 254, 256, 257, 258, 261, 262] (fun _ => by kernel_rfl) [64]
theorem Mine.left1 : Mine.Left Mine.hook false := fun w => by kernel_rfl
theorem Mine.left2 : Mine.Left Mine.hook true := fun w => by kernel_rfl
end
section
open PySem PySem.W PyProof.Rows PySem.Calls PySem.Spec
set_option Elab.async false
namespace Mine
/-- split, as the code reckons it -/
noncomputable def splitF (x : Str) : Str × Str :=
  (if (Txt.slice x none (some (Txt.rfind x (Str.ofString "/") + 1))).length ≠ 0 ∧ (Txt.slice x none (some (Txt.rfind x (Str.ofString "/") + 1)) != Txt.mul (Str.ofString "/") ↑(Txt.slice x none (some (Txt.rfind x (Str.ofString "/") + 1))).length) = true
    then Txt.rstripChars (Txt.slice x none (some (Txt.rfind x (Str.ofString "/") + 1))) (Str.ofString "/") else Txt.slice x none (some (Txt.rfind x (Str.ofString "/") + 1)), Txt.slice x (some (Txt.rfind x (Str.ofString "/") + 1)) none)
noncomputable def joinF (x y : Str) : Str := if Txt.startswith y (Str.ofString "/") = true then y else if (x.length : Int) = 0 then y else if Txt.endswith x (Str.ofString "/") = true then x ++ y else x ++ (Str.ofString "/" ++ y)
/-- what splitext gives, as the code reckons it -/
structure ExtOf (x st en : Str) : Prop where
  some_ : ∀ j : Int, 0 ≤ j → Txt.rfind x (Str.ofString "/") + 1 + 1 * j < Txt.rfind x (Str.ofString ".") → (Txt.slice x (some (Txt.rfind x (Str.ofString "/") + 1 + 1 * j)) (some (Txt.rfind x (Str.ofString "/") + 1 + 1 * j + 1)) != Str.ofString ".") = true →
    st = Txt.slice x none (some (Txt.rfind x (Str.ofString "."))) ∧ en = Txt.slice x (some (Txt.rfind x (Str.ofString "."))) none
  none_ : (∀ j : Int, 0 ≤ j → Txt.rfind x (Str.ofString "/") + 1 + 1 * j < Txt.rfind x (Str.ofString ".") → (Txt.slice x (some (Txt.rfind x (Str.ofString "/") + 1 + 1 * j)) (some (Txt.rfind x (Str.ofString "/") + 1 + 1 * j + 1)) != Str.ofString ".") = false) →
    st = x ∧ en = Txt.slice x none (some 0)
noncomputable def signOf : Nat → Str
  | 0 => Str.ofString "a"
  | 1 => Str.ofString "."
  | 2 => Str.ofString "/"
  | 3 => Str.ofString "b"
  | 4 => Str.ofString "/../"
  | _ => Str.ofString "a.b"
noncomputable def textOf (c : Nat) (acc : Str) : Str := if 0 < c then textOf (c / 6) (acc ++ signOf (c % 6)) else acc
termination_by c
decreasing_by omega
noncomputable def stepN (ns : List Str) (wd : Str) : List Str := if wd = Str.ofString ".." then ns.dropLast else if wd = Str.ofString "" ∨ wd = Str.ofString "." then ns else ns ++ [wd]
theorem stepN_len (ns : List Str) (wd : Str) : (stepN ns wd).length ≤ ns.length + 1 := by
  unfold stepN
  split
  · rw [List.length_dropLast]; omega
  · split
    · omega
    · simp
theorem foldN_len (ws : List Str) (ns : List Str) : (ws.foldl stepN ns).length ≤ ns.length + ws.length := by
  induction ws generalizing ns with
  | nil => simp
  | cons x r ih =>
    have h1 := ih (stepN ns x)
    have h2 := stepN_len ns x
    simp only [List.foldl_cons, List.length_cons] at h1 ⊢
    omega
noncomputable def pth (ns : List Str) : Str := Str.ofString "/" ++ Txt.join (Str.ofString "/") ns
noncomputable def tailJ (ns : List Str) (j : Nat) : Str := Txt.join (Str.ofString "/") (ns.drop j)
noncomputable def shI (ns : List Str) (k : Nat) : List (Str × Str) := (List.range k).map fun j => (pth (ns.take (ns.length - 1 - j)), tailJ ns (ns.length - 1 - j))
noncomputable def shFull (ns : List Str) (st en : Str) : List (Str × Str) := if ns = [] then [] else shI ns ns.length ++ [(en, st)]
theorem shI_succ (ns : List Str) (k : Nat) : shI ns (k + 1) = shI ns k ++ [(pth (ns.take (ns.length - 1 - k)), tailJ ns (ns.length - 1 - k))] := by
  unfold shI; rw [List.range_succ, List.map_append]; rfl
end Mine
end
section
open PySem PySem.W PyProof.Rows PySem.Calls PySem.Spec PySem.Builtin PySem.Builtin.Str
set_option Elab.async false
namespace Mine
noncomputable abbrev mkS (l : List Nat) : Str := ⟨l.toArray⟩
theorem mkS_cps (x : Str) : mkS x.cps.toList = x := by cases x; simp [mkS]
theorem mkS_app (a b : List Nat) : mkS a ++ mkS b = mkS (a ++ b) := by
  apply Str.ext'; show a.toArray ++ b.toArray = (a ++ b).toArray; simp
theorem mkS_len (l : List Nat) : (mkS l).length = l.length := by simp [Str.length]
theorem mkS_toList (l : List Nat) : (mkS l).cps.toList = l := by simp
theorem mkS_inj {a b : List Nat} (h : mkS a = mkS b) : a = b := by
  have := congrArg (fun x : Str => x.cps.toList) h; simpa [mkS] using this
theorem slash_eq : Str.ofString "/" = mkS [47] := by decide +kernel
theorem dot_eq : Str.ofString "." = mkS [46] := by decide +kernel
theorem nil_eq : Str.ofString "" = mkS [] := by decide +kernel
theorem dotdot_eq : Str.ofString ".." = mkS [46, 46] := by decide +kernel
theorem slice_to (l : List Nat) (n : Nat) (h : n ≤ l.length) : Txt.slice (mkS l) none (some (n : Int)) = mkS (l.take n) := by
  have := beq_iff_eq.mp (slice_closes_toL (x := mkS l) (j := (n : Int)) (by omega) (by rw [mkS_len]; omega))
  rw [this, mkS_toList]; simp
theorem slice_from (l : List Nat) (n : Nat) (h : n ≤ l.length) : Txt.slice (mkS l) (some (n : Int)) none = mkS (l.drop n) := by
  have := beq_iff_eq.mp (slice_closes_fromL (x := mkS l) (i := (n : Int)) (b := (l.length : Int)) (by omega) (by rw [mkS_len]; omega) (by rw [mkS_len]))
  rw [this, mkS_toList]
  have e : ((l.length : Int) - (n : Int)).toNat = l.length - n := by omega
  rw [e, Int.toNat_natCast]
  rw [List.take_of_length_le (by simp)]
theorem slice_mid (l : List Nat) (i j : Nat) (h : i ≤ j) (h2 : j ≤ l.length) : Txt.slice (mkS l) (some (i : Int)) (some (j : Int)) = mkS ((l.drop i).take (j - i)) := by
  have := beq_iff_eq.mp (slice_closesL (x := mkS l) (i := (i : Int)) (j := (j : Int)) (by omega) (by omega) (by rw [mkS_len]; omega))
  rw [this, mkS_toList]
  have e : ((j : Int) - (i : Int)).toNat = j - i := by omega
  rw [e, Int.toNat_natCast]
theorem at_one (l : List Nat) (c i : Nat) : StrLaws.At (mkS l) (mkS [c]) (mkS l).length i ↔ l[i]? = some c := by
  unfold StrLaws.At
  rw [StrLaws.subAt_eq, mkS_len, mkS_len, mkS_toList, mkS_toList]
  constructor
  · rintro ⟨h1, h2⟩
    simp only [List.length_cons, List.length_nil] at h1 h2
    have h3 := eq_of_beq h2
    rw [← List.head?_drop]
    cases hd : l.drop i with
    | nil => rw [hd] at h3; cases h3
    | cons a r => rw [hd] at h3; simp at h3; simp [h3]
  · intro h
    obtain ⟨hlt, hc⟩ := List.getElem?_eq_some_iff.mp h
    refine ⟨by simp; omega, ?_⟩
    rw [List.drop_eq_getElem_cons hlt, hc]
    simp
theorem rfind_at (P Q : List Nat) (c : Nat) (h : c ∉ Q) : Txt.rfind (mkS (P ++ c :: Q)) (mkS [c]) = (P.length : Int) := by
  unfold Txt.rfind
  rcases StrLaws.last_spec (mkS (P ++ c :: Q)) (mkS [c]) with ⟨h1, h2⟩ | ⟨i, h1, h2, h3⟩
  · exact absurd ((at_one _ _ P.length).mpr (by simp)) (h2 P.length)
  · rw [h1]
    rw [at_one] at h2
    have h4 : ¬ i < P.length := fun hlt => h3 P.length hlt ((at_one _ _ _).mpr (by simp))
    have h5 : ¬ P.length < i := fun hlt => by
      rw [List.getElem?_append_right (by omega)] at h2
      have e : i - P.length = (i - P.length - 1) + 1 := by omega
      rw [e, List.getElem?_cons_succ] at h2
      exact h (List.mem_of_getElem? h2)
    show (i : Int) = _
    omega
theorem rfind_none (l : List Nat) (c : Nat) (h : c ∉ l) : Txt.rfind (mkS l) (mkS [c]) = -1 := by
  unfold Txt.rfind
  rcases StrLaws.last_spec (mkS l) (mkS [c]) with ⟨h1, h2⟩ | ⟨i, h1, h2, h3⟩
  · rw [h1]
  · rw [at_one] at h2
    exact absurd (List.mem_of_getElem? h2) h
theorem rstrip_one (P : List Nat) (d : Nat) (hd : d ≠ 47) : Txt.rstripChars (mkS (P ++ [d] ++ [47])) (mkS [47]) = mkS (P ++ [d]) := by
  unfold Txt.rstripChars
  rw [PyProof.Rows.stripBy_eq]
  have e : stripHi (mkS [47]).cps.contains true (mkS (P ++ [d] ++ [47])) (stripLo (mkS [47]).cps.contains false (mkS (P ++ [d] ++ [47]))) = P.length + 1 := by
    unfold stripHi stripLo
    simp only [if_true, Bool.false_eq_true, if_false]
    rw [mkS_len]
    simp [List.takeWhile_cons, hd]
  rw [e]
  apply Str.ext'
  apply Array.toList_inj.mp
  rw [StrLaws.strSub_toList]
  unfold stripLo
  simp only [Bool.false_eq_true, if_false, List.drop_zero, Nat.sub_zero]
  rw [List.take_append_of_le_length (by simp), List.take_of_length_le (by simp)]
theorem mul_all (n : Int) : ∀ c ∈ (Txt.mul (mkS [47]) n).cps.toList, c = 47 := by
  unfold Txt.mul
  split
  · intro c hc; simp [Str.empty] at hc
  · split
    · intro c hc; simpa [mkS] using hc
    · have key : ∀ (k : Nat) (acc : Array Nat), (∀ c ∈ acc.toList, c = 47) → ∀ c ∈ ((List.replicate k (#[47] : Array Nat)).foldl (· ++ ·) acc).toList, c = 47 := by
        intro k
        induction k with
        | zero => intro acc h; simpa using h
        | succ k ih =>
          intro acc h
          rw [List.replicate_succ, List.foldl_cons]
          refine ih _ fun c hc => ?_
          rw [Array.toList_append] at hc
          rcases List.mem_append.mp hc with hc | hc
          · exact h c hc
          · simpa using hc
      exact key _ _ (fun c hc => by simp at hc)
theorem splitF_root (n : List Nat) (h : 47 ∉ n) : splitF (mkS (47 :: n)) = (mkS [47], mkS n) := by
  have e : Txt.rfind (mkS (47 :: n)) (Str.ofString "/") = 0 := by
    rw [slash_eq]; exact rfind_at [] n 47 h
  have e1 : Txt.slice (mkS (47 :: n)) none (some (0 + 1)) = mkS [47] := slice_to (47 :: n) 1 (by simp)
  have e2 : Txt.slice (mkS (47 :: n)) (some (0 + 1)) none = mkS n := slice_from (47 :: n) 1 (by simp)
  unfold splitF
  rw [e, e1, e2, if_neg (by
    rintro ⟨_, h2⟩
    rw [slash_eq] at h2
    revert h2
    decide +kernel)]
theorem splitF_deep (P n : List Nat) (d : Nat) (hd : d ≠ 47) (h : 47 ∉ n) : splitF (mkS (P ++ [d] ++ 47 :: n)) = (mkS (P ++ [d]), mkS n) := by
  have e : Txt.rfind (mkS (P ++ [d] ++ 47 :: n)) (Str.ofString "/") = ((P.length + 1 : Nat) : Int) := by
    rw [slash_eq, rfind_at (P ++ [d]) n 47 h]; simp
  have e1 : Txt.slice (mkS (P ++ [d] ++ 47 :: n)) none (some (((P.length + 1 : Nat) : Int) + 1)) = mkS (P ++ [d] ++ [47]) := by
    have := slice_to (P ++ [d] ++ 47 :: n) (P.length + 1 + 1) (by simp; omega)
    rw [show (((P.length + 1 : Nat) : Int) + 1) = ((P.length + 1 + 1 : Nat) : Int) by omega, this]
    congr 1
    rw [show P ++ [d] ++ 47 :: n = (P ++ [d] ++ [47]) ++ n by simp]
    rw [List.take_append_of_le_length (by simp), List.take_of_length_le (by simp)]
  have e2 : Txt.slice (mkS (P ++ [d] ++ 47 :: n)) (some (((P.length + 1 : Nat) : Int) + 1)) none = mkS n := by
    have := slice_from (P ++ [d] ++ 47 :: n) (P.length + 1 + 1) (by simp; omega)
    rw [show (((P.length + 1 : Nat) : Int) + 1) = ((P.length + 1 + 1 : Nat) : Int) by omega, this]
    congr 1
    rw [show P ++ [d] ++ 47 :: n = (P ++ [d] ++ [47]) ++ n by simp]
    rw [List.drop_append_of_le_length (by simp), List.drop_of_length_le (by simp)]; rfl
  unfold splitF
  rw [e, e1, e2, if_pos, slash_eq, rstrip_one P d hd]
  refine ⟨by rw [mkS_len]; simp, ?_⟩
  rw [bne_iff_ne, slash_eq]
  intro h2
  have := mul_all (((mkS (P ++ [d] ++ [47])).length : Nat) : Int) d (by rw [← h2, mkS_toList]; simp)
  exact hd this
/-- the texts are glued by one sign -/
theorem free_split {c : Nat} : ∀ {a b X Y : List Nat}, c ∉ a → c ∉ b → a ++ c :: X = b ++ c :: Y → a = b ∧ X = Y
  | [], [], X, Y, _, _, h => ⟨rfl, by simpa using h⟩
  | [], y :: b, X, Y, _, hb, h => by
    simp only [List.nil_append, List.cons_append, List.cons.injEq] at h
    exact absurd (h.1 ▸ List.mem_cons_self) hb
  | x :: a, [], X, Y, ha, _, h => by
    simp only [List.nil_append, List.cons_append, List.cons.injEq] at h
    exact absurd (h.1 ▸ List.mem_cons_self) ha
  | x :: a, y :: b, X, Y, ha, hb, h => by
    simp only [List.cons_append, List.cons.injEq] at h
    obtain ⟨e1, e2⟩ := free_split (fun hm => ha (.tail _ hm)) (fun hm => hb (.tail _ hm)) h.2
    exact ⟨by rw [h.1, e1], e2⟩
noncomputable def jl (c : Nat) : List Str → List Nat
  | [] => []
  | [x] => x.cps.toList
  | x :: y :: r => x.cps.toList ++ c :: jl c (y :: r)
theorem join_jl (c : Nat) : ∀ ws : List Str, Str.join (mkS [c]) ws = mkS (jl c ws)
  | [] => rfl
  | [x] => (mkS_cps x).symm
  | x :: y :: r => by
    show x ++ mkS [c] ++ Str.join (mkS [c]) (y :: r) = _
    rw [join_jl c (y :: r)]
    conv => lhs; rw [← mkS_cps x]
    rw [mkS_app, mkS_app]
    congr 1
    simp [jl]
theorem txt_join (c : Nat) (ws : List Str) : Txt.join (mkS [c]) ws = mkS (jl c ws) := by
  rw [← join_jl]; exact StrLaws.glued_eq_join _ _
theorem jl_cons (c : Nat) (x : Str) {r : List Str} (h : r ≠ []) : jl c (x :: r) = x.cps.toList ++ c :: jl c r := by
  cases r with
  | nil => exact absurd rfl h
  | cons y r => rfl
theorem jl_app (c : Nat) {a b : List Str} (ha : a ≠ []) (hb : b ≠ []) : jl c (a ++ b) = jl c a ++ c :: jl c b := by
  induction a with
  | nil => exact absurd rfl ha
  | cons x r ih =>
    by_cases hr : r = []
    · subst hr; rw [List.cons_append, List.nil_append, jl_cons c x hb]; rfl
    · rw [List.cons_append, jl_cons c x (by simp [hr]), jl_cons c x hr, ih hr]; simp
theorem jl_inj {c : Nat} : ∀ {ws ws' : List Str}, ws ≠ [] → ws' ≠ [] → (∀ x ∈ ws, c ∉ x.cps.toList) → (∀ x ∈ ws', c ∉ x.cps.toList) → jl c ws = jl c ws' → ws = ws'
  | [], _, h, _, _, _, _ => absurd rfl h
  | _ :: _, [], _, h, _, _, _ => absurd rfl h
  | [x], [y], _, _, _, _, h => by
    have : mkS x.cps.toList = mkS y.cps.toList := congrArg mkS h
    rw [mkS_cps, mkS_cps] at this; rw [this]
  | [x], y :: z :: r, _, _, hx, _, h => by
    have e : x.cps.toList = y.cps.toList ++ c :: jl c (z :: r) := h
    exact absurd (by rw [e]; simp) (hx x (.head _))
  | x :: z :: r, [y], _, _, _, hy, h => by
    have e : x.cps.toList ++ c :: jl c (z :: r) = y.cps.toList := h
    exact absurd (by rw [← e]; simp) (hy y (.head _))
  | x :: z :: r, y :: z' :: r', _, _, hx, hy, h => by
    have e : x.cps.toList ++ c :: jl c (z :: r) = y.cps.toList ++ c :: jl c (z' :: r') := h
    obtain ⟨e1, e2⟩ := free_split (hx x (.head _)) (hy y (.head _)) e
    have e3 := jl_inj (c := c) (by simp) (by simp) (fun a ha => hx a (.tail _ ha)) (fun a ha => hy a (.tail _ ha)) e2
    have : mkS x.cps.toList = mkS y.cps.toList := congrArg mkS e1
    rw [mkS_cps, mkS_cps] at this
    rw [this, e3]
theorem split_ne (x y : Str) : Txt.split x y ≠ [] := fun h => by have := split_pos x y; rw [h] at this; simp at this
theorem split_free' (x : Str) (c : Nat) : ∀ p ∈ Txt.split x (mkS [c]), c ∉ p.cps.toList := StrLaws.split_free x c
theorem jl_split (x : Str) (c : Nat) : mkS (jl c (Txt.split x (mkS [c]))) = x := by
  rw [← join_jl]; exact StrLaws.join_split x _
theorem split_jl {c : Nat} {ws : List Str} (h : ws ≠ []) (hf : ∀ x ∈ ws, c ∉ x.cps.toList) : Txt.split (mkS (jl c ws)) (mkS [c]) = ws :=
  jl_inj (split_ne _ _) h (split_free' _ c) hf (mkS_inj (jl_split _ c))
end Mine
end
section
open PySem PySem.W PyProof.Rows PySem.Calls PySem.Spec PySem.Builtin PySem.Builtin.Str
set_option Elab.async false
namespace Mine
/-- a name on a way -/
structure Nm (n : Str) : Prop where
  ne : n ≠ Str.ofString ""
  free : 47 ∉ n.cps.toList
  nd : n ≠ Str.ofString "."
  ndd : n ≠ Str.ofString ".."
  asc : ∀ c ∈ n.cps.toList, c < 128
theorem Nm.pos {n : Str} (h : Nm n) : n.cps.toList ≠ [] := fun e => h.ne (by rw [nil_eq, ← e, mkS_cps])
abbrev Nms (ns : List Str) : Prop := ∀ n ∈ ns, Nm n
noncomputable def wt (ns : List Str) : Nat := (ns.map fun n => n.length + 1).sum
theorem wt_cons (x : Str) (r : List Str) : wt (x :: r) = x.length + 1 + wt r := by simp [wt]
theorem wt_app (a b : List Str) : wt (a ++ b) = wt a + wt b := by simp [wt]
theorem wt_len (ns : List Str) : ns.length ≤ wt ns := by
  induction ns with
  | nil => simp
  | cons x r ih => rw [wt_cons, List.length_cons]; omega
theorem wt_mem {ns : List Str} {n : Str} (h : n ∈ ns) : n.length + 1 ≤ wt ns := by
  induction ns with
  | nil => cases h
  | cons x r ih =>
    rw [wt_cons]
    rcases List.mem_cons.mp h with rfl | h
    · omega
    · have := ih h; omega
theorem wt_take (ns : List Str) (i : Nat) : wt (ns.take i) ≤ wt ns := by
  have := wt_app (ns.take i) (ns.drop i); rw [List.take_append_drop] at this; omega
theorem wt_drop (ns : List Str) (i : Nat) : wt (ns.drop i) ≤ wt ns := by
  have := wt_app (ns.take i) (ns.drop i); rw [List.take_append_drop] at this; omega
theorem jl_len (c : Nat) : ∀ ns : List Str, (jl c ns).length ≤ wt ns
  | [] => by simp [jl, wt]
  | [x] => by simp [jl, wt, Str.length]
  | x :: y :: r => by
    have ih := jl_len c (y :: r)
    rw [wt_cons]
    simp only [jl, List.length_append, List.length_cons, Str.length, Array.length_toList] at ih ⊢
    omega
theorem jl_asc : ∀ {ns : List Str}, Nms ns → ∀ c ∈ jl 47 ns, c < 128
  | [], _, _, h => nomatch h
  | [x], hn, c, h => (hn x (.head _)).asc c h
  | x :: y :: r, hn, c, h => by
    rcases List.mem_append.mp h with h | h
    · exact (hn x (.head _)).asc c h
    · rcases List.mem_cons.mp h with rfl | h
      · decide
      · exact jl_asc (fun n hn' => hn n (.tail _ hn')) c h
theorem jl_ends : ∀ {ns : List Str}, Nms ns → ns ≠ [] → ∃ P d, jl 47 ns = P ++ [d] ∧ d ≠ 47
  | [], _, h => absurd rfl h
  | [x], hn, _ => by
    have hx := hn x (.head _)
    refine ⟨x.cps.toList.dropLast, x.cps.toList.getLast hx.pos, (List.dropLast_concat_getLast hx.pos).symm, fun e => hx.free (e ▸ List.getLast_mem hx.pos)⟩
  | x :: y :: r, hn, _ => by
    obtain ⟨P, d, e, hd⟩ := jl_ends (fun n hn' => hn n (.tail _ hn')) (List.cons_ne_nil y r)
    exact ⟨x.cps.toList ++ 47 :: P, d, by rw [jl, e]; simp, hd⟩
theorem jl_starts : ∀ {ns : List Str}, Nms ns → ns ≠ [] → ∃ d P, jl 47 ns = d :: P ∧ d ≠ 47
  | [], _, h => absurd rfl h
  | x :: r, hn, _ => by
    have hx := hn x (.head _)
    obtain ⟨d, P, e⟩ := List.exists_cons_of_ne_nil hx.pos
    have hd : d ≠ 47 := fun e2 => hx.free (by rw [e, e2]; exact .head _)
    by_cases hr : r = []
    · subst hr; exact ⟨d, P, e, hd⟩
    · exact ⟨d, P ++ 47 :: jl 47 r, by rw [jl_cons _ _ hr, e]; simp, hd⟩
theorem pth_eq (ns : List Str) : pth ns = mkS (47 :: jl 47 ns) := by
  unfold pth; rw [slash_eq, txt_join, mkS_app]; rfl
theorem tailJ_eq (ns : List Str) (j : Nat) : tailJ ns j = mkS (jl 47 (ns.drop j)) := by
  unfold tailJ; rw [slash_eq, txt_join]
theorem jl_one (n : Str) : jl 47 [n] = n.cps.toList := rfl
theorem split_pth0 : splitF (pth []) = (pth [], Str.ofString "") := by
  rw [pth_eq, nil_eq]; exact splitF_root [] (by simp)
theorem split_pth {ds : List Str} {n : Str} (hd : Nms ds) (hn : Nm n) : splitF (pth (ds ++ [n])) = (pth ds, n) := by
  by_cases h : ds = []
  · subst h
    rw [List.nil_append, pth_eq, jl_one, splitF_root _ hn.free, mkS_cps, pth_eq]; rfl
  · obtain ⟨P, d, e, hd'⟩ := jl_ends hd h
    rw [pth_eq, pth_eq, jl_app 47 h (by simp), jl_one, e]
    have := splitF_deep (47 :: P) n.cps.toList d hd' hn.free
    rw [mkS_cps] at this
    simpa using this
theorem split_pth_at {ns : List Str} (h : Nms ns) (i : Nat) (hi : i < ns.length) : splitF (pth (ns.take (i + 1))) = (pth (ns.take i), ns[i]) := by
  rw [List.take_add_one, List.getElem?_eq_getElem hi]
  exact split_pth (fun n hn => h n (List.mem_of_mem_take hn)) (h _ (List.getElem_mem hi))
theorem dir_pth {ns : List Str} (h : Nms ns) : (splitF (pth ns)).1 = pth ns.dropLast := by
  by_cases h0 : ns = []
  · subst h0; rw [split_pth0]; rfl
  · have e := List.dropLast_concat_getLast h0
    have := split_pth (ds := ns.dropLast) (n := ns.getLast h0) (fun n hn => h n ((List.dropLast_sublist ns).subset hn)) (h _ (List.getLast_mem h0))
    rw [e] at this
    rw [this]
theorem starts_one (a : Nat) (l : List Nat) : Txt.startswith (mkS (a :: l)) (mkS [47]) = decide (a = 47) := by
  unfold Txt.startswith
  rw [StrLaws.subAt_eq, mkS_len, mkS_len, mkS_toList, mkS_toList]
  by_cases h : a = 47 <;> simp [h]
theorem ends_one (l : List Nat) (a : Nat) : Txt.endswith (mkS (l ++ [a])) (mkS [47]) = decide (a = 47) := by
  unfold Txt.endswith
  rw [StrLaws.subAt_eq, mkS_len, mkS_len, mkS_toList, mkS_toList]
  by_cases h : a = 47 <;> simp [h]
theorem joinF_mid {P : List Nat} {d a : Nat} {l : List Nat} (hd : d ≠ 47) (ha : a ≠ 47) : joinF (mkS (P ++ [d])) (mkS (a :: l)) = mkS (P ++ [d] ++ 47 :: a :: l) := by
  unfold joinF
  rw [slash_eq, starts_one, ends_one, decide_eq_false ha, decide_eq_false hd, if_neg (by decide), if_neg (by rw [mkS_len]; simp; omega), if_neg (by decide), mkS_app, mkS_app]
  simp
theorem joinF_root {a : Nat} {l : List Nat} (ha : a ≠ 47) : joinF (mkS [47]) (mkS (a :: l)) = mkS (47 :: a :: l) := by
  unfold joinF
  have e := ends_one [] 47
  rw [List.nil_append] at e
  rw [slash_eq, starts_one, e, decide_eq_false ha, if_neg (by decide), if_neg (by rw [mkS_len]; simp), if_pos (by decide), mkS_app]
  rfl
theorem join_tail {ns : List Str} (h : Nms ns) (i : Nat) (hi : i + 1 < ns.length) : joinF ns[i] (tailJ ns (i + 1)) = tailJ ns i := by
  have hne : ns.drop (i + 1) ≠ [] := fun e => by have := congrArg List.length e; simp at this; omega
  have hd : Nms (ns.drop (i + 1)) := fun n hn => h n (List.mem_of_mem_drop hn)
  obtain ⟨a, l, e1, ha⟩ := jl_starts hd hne
  have hx := h _ (List.getElem_mem (show i < ns.length by omega))
  obtain ⟨P, d, e2, hd2⟩ := jl_ends (ns := [ns[i]]) (fun n hn => by rw [List.mem_singleton.mp hn]; exact hx) (by simp)
  rw [tailJ_eq, tailJ_eq, List.drop_eq_getElem_cons (show i < ns.length by omega), jl_cons _ _ hne, e1]
  rw [jl_one] at e2
  have := joinF_mid (P := P) (l := l) hd2 ha
  rw [← e2, mkS_cps] at this
  exact this
theorem tail_last {ns : List Str} (h : 0 < ns.length) : ns[ns.length - 1] = tailJ ns (ns.length - 1) := by
  rw [tailJ_eq, List.drop_eq_getElem_cons (by omega), List.drop_of_length_le (by omega), jl_one, mkS_cps]
theorem ok_mkS {l : List Nat} (h : ∀ c ∈ l, c < 128) : PyData.strOk (mkS l) = true := by
  show (mkS l).cps.all _ = true
  rw [Array.all_eq_true_iff_forall_mem]
  intro c hc
  have : c ∈ l := by simpa using hc
  have := h c this
  simp; omega
theorem ok_pth {ns : List Str} (h : Nms ns) (i : Nat) : PyData.strOk (pth (ns.take i)) = true := by
  rw [pth_eq]
  refine ok_mkS fun c hc => ?_
  rcases List.mem_cons.mp hc with rfl | hc
  · decide
  · exact jl_asc (fun n hn => h n (List.mem_of_mem_take hn)) c hc
theorem ok_tail {ns : List Str} (h : Nms ns) (i : Nat) : PyData.strOk (tailJ ns i) = true := by
  rw [tailJ_eq]
  exact ok_mkS (jl_asc fun n hn => h n (List.mem_of_mem_drop hn))
theorem len_pth (ns : List Str) (i : Nat) : (pth (ns.take i)).length ≤ wt ns + 1 := by
  rw [pth_eq, mkS_len]
  have h1 := jl_len 47 (ns.take i)
  have h2 := wt_take ns i
  simp only [List.length_cons]; omega
theorem len_tail (ns : List Str) (i : Nat) : (tailJ ns i).length ≤ wt ns := by
  rw [tailJ_eq, mkS_len]
  have h1 := jl_len 47 (ns.drop i)
  have h2 := wt_drop ns i
  omega
end Mine
end
section
open PySem PySem.W PyProof.Rows PySem.Calls PySem.Spec PySem.Builtin PySem.Builtin.Str
set_option Elab.async false
namespace Mine
theorem sign_asc (r : Nat) : ∀ x ∈ (signOf r).cps.toList, x < 128 := by
  match r with
  | 0 => exact (by decide +kernel : ∀ x ∈ (Str.ofString "a").cps.toList, x < 128)
  | 1 => exact (by decide +kernel : ∀ x ∈ (Str.ofString ".").cps.toList, x < 128)
  | 2 => exact (by decide +kernel : ∀ x ∈ (Str.ofString "/").cps.toList, x < 128)
  | 3 => exact (by decide +kernel : ∀ x ∈ (Str.ofString "b").cps.toList, x < 128)
  | 4 => exact (by decide +kernel : ∀ x ∈ (Str.ofString "/../").cps.toList, x < 128)
  | _ + 5 => exact (by decide +kernel : ∀ x ∈ (Str.ofString "a.b").cps.toList, x < 128)
theorem sign_len (r : Nat) : (signOf r).cps.toList.length ≤ 4 := by
  match r with
  | 0 => exact (by decide +kernel : (Str.ofString "a").cps.toList.length ≤ 4)
  | 1 => exact (by decide +kernel : (Str.ofString ".").cps.toList.length ≤ 4)
  | 2 => exact (by decide +kernel : (Str.ofString "/").cps.toList.length ≤ 4)
  | 3 => exact (by decide +kernel : (Str.ofString "b").cps.toList.length ≤ 4)
  | 4 => exact (by decide +kernel : (Str.ofString "/../").cps.toList.length ≤ 4)
  | _ + 5 => exact (by decide +kernel : (Str.ofString "a.b").cps.toList.length ≤ 4)
theorem text_is : ∀ (j c : Nat) (acc : List Nat), c < 6 ^ j → ∃ m, textOf c (mkS acc) = mkS (acc ++ m) ∧ (∀ x ∈ m, x < 128) ∧ m.length ≤ 4 * j
  | 0, c, acc, h => by
    have : ¬ 0 < c := by simp at h; omega
    exact ⟨[], by rw [textOf, if_neg this]; simp, (fun _ h => nomatch h), Nat.zero_le _⟩
  | j + 1, c, acc, h => by
    by_cases hc : 0 < c
    · obtain ⟨m, e1, e2, e3⟩ := text_is j (c / 6) (acc ++ (signOf (c % 6)).cps.toList) (by rw [Nat.pow_succ] at h; omega)
      refine ⟨(signOf (c % 6)).cps.toList ++ m, ?_, ?_, ?_⟩
      · rw [textOf, if_pos hc]
        have : mkS acc ++ signOf (c % 6) = mkS (acc ++ (signOf (c % 6)).cps.toList) := by
          conv => lhs; rw [← mkS_cps (signOf (c % 6))]
          rw [mkS_app]
        rw [this, e1, List.append_assoc]
      · intro x hx
        rcases List.mem_append.mp hx with hx | hx
        · exact sign_asc _ x hx
        · exact e2 x hx
      · have := sign_len (c % 6)
        rw [List.length_append]; omega
    · exact ⟨[], by rw [textOf, if_neg hc]; simp, (fun _ h => nomatch h), Nat.zero_le _⟩
theorem text_of {c : Nat} (h : c < 46656) : ∃ m, textOf c (Str.ofString "./") = mkS (46 :: m) ∧ (∀ x ∈ 46 :: m, x < 128) ∧ (46 :: m).length ≤ 26 := by
  obtain ⟨m, e1, e2, e3⟩ := text_is 6 c [46, 47] (by omega)
  refine ⟨47 :: m, ?_, ?_, ?_⟩
  · rw [show Str.ofString "./" = mkS [46, 47] by decide +kernel, e1]; rfl
  · intro x hx
    rcases List.mem_cons.mp hx with rfl | hx
    · decide
    · rcases List.mem_cons.mp hx with rfl | hx
      · decide
      · exact e2 x hx
  · simp only [List.length_cons]; omega
structure Wd (w : Str) : Prop where
  free : 47 ∉ w.cps.toList
  asc : ∀ c ∈ w.cps.toList, c < 128
abbrev Wds (ws : List Str) : Prop := ∀ w ∈ ws, Wd w
theorem Nms.wds {ns : List Str} (h : Nms ns) : Wds ns := fun n hn => ⟨(h n hn).free, (h n hn).asc⟩
theorem stepN_nms {ns : List Str} {wd : Str} (h : Nms ns) (hw : Wd wd) : Nms (stepN ns wd) := by
  unfold stepN
  split
  · exact fun n hn => h n ((List.dropLast_sublist ns).subset hn)
  · rename_i h1
    split
    · exact h
    · rename_i h2
      intro n hn
      rcases List.mem_append.mp hn with hn | hn
      · exact h n hn
      · rw [List.mem_singleton.mp hn]
        exact ⟨fun e => h2 (.inl e), hw.free, fun e => h2 (.inr e), h1, hw.asc⟩
theorem foldN_nms {ws ns : List Str} (h : Nms ns) (hw : Wds ws) : Nms (ws.foldl stepN ns) := by
  induction ws generalizing ns with
  | nil => exact h
  | cons x r ih => exact ih (stepN_nms h (hw x (.head _))) fun w hw' => hw w (.tail _ hw')
theorem stepN_wt (ns : List Str) (wd : Str) : wt (stepN ns wd) ≤ wt ns + (wd.length + 1) := by
  unfold stepN
  split
  · rw [List.dropLast_eq_take]
    have := wt_take ns (ns.length - 1); omega
  · split
    · omega
    · rw [wt_app]; simp [wt]
theorem foldN_wt (ws ns : List Str) : wt (ws.foldl stepN ns) ≤ wt ns + wt ws := by
  induction ws generalizing ns with
  | nil => simp [wt]
  | cons x r ih =>
    have h1 := ih (stepN ns x)
    have h2 := stepN_wt ns x
    rw [wt_cons]
    rw [List.foldl_cons]; omega
theorem foldN_self {ds : List Str} (h : Nms ds) (ns : List Str) : ds.foldl stepN ns = ns ++ ds := by
  induction ds generalizing ns with
  | nil => simp
  | cons x r ih =>
    have hx := h x (.head _)
    rw [List.foldl_cons, ih fun n hn => h n (.tail _ hn)]
    unfold stepN
    rw [if_neg hx.ndd, if_neg (fun e => e.elim hx.ne hx.nd)]
    simp
theorem wt_eq (ns : List Str) : (ns.map (·.length)).sum + ns.length = wt ns := by
  induction ns with
  | nil => rfl
  | cons x r ih => rw [wt_cons, List.map_cons, List.sum_cons, List.length_cons]; omega
theorem jl_mem {c : Nat} : ∀ {ws : List Str} {x : Str} {k : Nat}, x ∈ ws → k ∈ x.cps.toList → k ∈ jl c ws
  | [x], _, k, h, hk => by rw [List.mem_singleton.mp h] at hk; exact hk
  | x :: y :: r, z, k, h, hk => by
    rcases List.mem_cons.mp h with rfl | h
    · exact List.mem_append_left _ hk
    · exact List.mem_append_right _ (.tail _ (jl_mem h hk))
noncomputable abbrev wordsOf (l : List Nat) : List Str := Txt.split (mkS l) (Str.ofString "/")
theorem words_wds {l : List Nat} (h : ∀ c ∈ l, c < 128) : Wds (wordsOf l) := by
  intro w hw
  unfold wordsOf at hw
  rw [slash_eq] at hw
  refine ⟨split_free' _ 47 w hw, fun c hc => h c ?_⟩
  have := jl_mem (c := 47) hw hc
  rwa [mkS_inj (jl_split (mkS l) 47)] at this
theorem words_wt (l : List Nat) : wt (wordsOf l) ≤ l.length + 1 := by
  have := split_weight (mkS l) (Str.ofString "/") (by decide)
  rw [wt_eq, mkS_len] at this; exact this
/-- the way's names behind the next text -/
noncomputable def nextW (ds : List Str) (c : Nat) : List Str := (Txt.split (textOf c (Str.ofString "./")) (Str.ofString "/")).foldl stepN ds
theorem nextW_nms {ds : List Str} {c : Nat} (h : Nms ds) (hc : c < 46656) : Nms (nextW ds c) := by
  obtain ⟨m, e1, e2, e3⟩ := text_of hc
  unfold nextW; rw [e1]
  exact foldN_nms h (words_wds e2)
theorem nextW_wt {ds : List Str} {c : Nat} (hc : c < 46656) : wt (nextW ds c) ≤ wt ds + 27 := by
  obtain ⟨m, e1, e2, e3⟩ := text_of hc
  unfold nextW; rw [e1]
  have h1 := foldN_wt (wordsOf (46 :: m)) ds
  have h2 := words_wt (46 :: m)
  show wt ((wordsOf (46 :: m)).foldl stepN ds) ≤ _
  omega
/-- what normpath is handed -/
structure Nrm (x : Str) (ds : List Str) (c : Nat) : Prop where
  len : x.length ≤ 20000
  g1 : (Txt.slice x none (some 1) != Str.ofString "/") = false
  g2 : (Txt.slice x (some 1) (some 2) != Str.ofString "/") = true
  sp : (Txt.split (Txt.slice x (some 1) none) (Str.ofString "/")).foldl stepN [] = nextW ds c
  hw : (Txt.split (Txt.slice x (some 1) none) (Str.ofString "/")).length ≤ 100000
  hdd : ∀ i, Str.ofString ".." ∉ ((Txt.split (Txt.slice x (some 1) none) (Str.ofString "/")).take i).foldl stepN []
theorem split_glue {ds : List Str} {l : List Nat} (h : Nms ds) (hd : ds ≠ []) : Txt.split (mkS (jl 47 ds ++ 47 :: l)) (Str.ofString "/") = ds ++ wordsOf l := by
  unfold wordsOf
  rw [slash_eq]
  have hW := split_ne (mkS l) (mkS [47])
  have e : jl 47 ds ++ 47 :: l = jl 47 (ds ++ Txt.split (mkS l) (mkS [47])) := by
    rw [jl_app 47 hd hW, mkS_inj (jl_split (mkS l) 47)]
  rw [e]
  refine split_jl (by simp [hd]) fun x hx => ?_
  rcases List.mem_append.mp hx with hx | hx
  · exact (h x hx).free
  · exact split_free' _ 47 x hx
theorem nrm_inner {ds : List Str} {c : Nat} {I : List Nat} {ws : List Str} (hI : 47 ≠ I.headD 47) (hlen : I.length ≤ 19000) (hsp : Txt.split (mkS I) (Str.ofString "/") = ws) (hw : Wds ws) (hf : ws.foldl stepN [] = nextW ds c) (hwl : ws.length ≤ 100000) : Nrm (mkS (47 :: I)) ds c := by
  obtain ⟨a, r, rfl⟩ : ∃ a r, I = a :: r := by cases I with
    | nil => exact absurd rfl hI
    | cons a r => exact ⟨a, r, rfl⟩
  have ha : 47 ≠ a := hI
  have e1 : Txt.slice (mkS (47 :: a :: r)) (some 1) none = mkS (a :: r) := slice_from (47 :: a :: r) 1 (by simp)
  have e2 : Txt.slice (mkS (47 :: a :: r)) none (some 1) = mkS [47] := slice_to (47 :: a :: r) 1 (by simp)
  have e3 : Txt.slice (mkS (47 :: a :: r)) (some 1) (some 2) = mkS [a] := slice_mid (47 :: a :: r) 1 2 (by simp) (by simp)
  refine ⟨by rw [mkS_len]; simp only [List.length_cons] at hlen ⊢; omega, by rw [e2, slash_eq]; simp, ?_, by rw [e1, hsp]; exact hf, by rw [e1, hsp]; exact hwl, fun i => ?_⟩
  · rw [e3, slash_eq, bne_iff_ne]
    intro e
    have := mkS_inj e
    simp at this
    exact ha this.symm
  · rw [e1, hsp]
    intro hm
    have := foldN_nms (ws := ws.take i) (ns := []) (fun _ h => nomatch h) (fun w h => hw w (List.mem_of_mem_take h))
    exact (this _ hm).ndd rfl
theorem nrm_of {ds : List Str} {c : Nat} (h : Nms ds) (hc : c < 46656) (hw : wt ds ≤ 9000) : Nrm (joinF (pth ds) (textOf c (Str.ofString "./"))) ds c := by
  obtain ⟨m, e1, e2, e3⟩ := text_of hc
  have hws := words_wds e2
  have hwl := words_wt (46 :: m)
  have hwl2 := wt_len (wordsOf (46 :: m))
  by_cases hd : ds = []
  · subst hd
    rw [e1, pth_eq]
    show Nrm (joinF (mkS [47]) _) _ _
    rw [joinF_root (by decide)]
    exact nrm_inner (I := 46 :: m) (ws := wordsOf (46 :: m)) (by simp) (by omega) rfl hws (by unfold nextW; rw [e1]) (by omega)
  · obtain ⟨P, d, e4, hd4⟩ := jl_ends h hd
    obtain ⟨d2, P2, e5, hd5⟩ := jl_starts h hd
    have hj := jl_len 47 ds
    have hl := wt_len ds
    have e6 : joinF (pth ds) (textOf c (Str.ofString "./")) = mkS (47 :: (jl 47 ds ++ 47 :: 46 :: m)) := by
      rw [e1, pth_eq, e4]
      have := joinF_mid (P := 47 :: P) (d := d) (a := 46) (l := m) hd4 (by decide)
      simpa using this
    rw [e6]
    refine nrm_inner (ws := ds ++ wordsOf (46 :: m)) (by rw [e5]; simpa using fun e => hd5 e.symm) (by simp only [List.length_append, List.length_cons] at e3 ⊢; omega) (split_glue h hd) (fun w hw' => ?_) ?_ (by rw [List.length_append]; omega)
    · rcases List.mem_append.mp hw' with hw' | hw'
      · exact h.wds w hw'
      · exact hws w hw'
    · rw [List.foldl_append, foldN_self h, List.nil_append]; unfold nextW; rw [e1]
/-- the ending as the law reckons it -/
noncomputable def dueWords (ns : List Str) : List Str := Txt.split (Txt.lstripChars (ns.getLastD (Str.ofString "")) (Str.ofString ".")) (Str.ofString ".")
noncomputable def dueEn (ns : List Str) : Str := if 1 < (dueWords ns).length then Str.ofString "." ++ (dueWords ns).getLastD (Str.ofString "") else Str.ofString ""
noncomputable def dueSt (ns : List Str) : Str := Txt.slice (pth ns) none (some ((pth ns).length - (dueEn ns).length))
theorem join_len (ns : List Str) : (Txt.join (Str.ofString "/") ns).length ≤ wt ns := by
  rw [slash_eq, txt_join, mkS_len]; exact jl_len 47 ns
end Mine
end
section
open PySem PySem.W PyProof.Rows PySem.Calls PySem.Spec PySem.Builtin PySem.Builtin.Str
set_option Elab.async false
namespace Mine
theorem last_split {c : Nat} : ∀ {l : List Nat}, c ∈ l → ∃ A B, l = A ++ c :: B ∧ c ∉ B
  | a :: r, h => by
    by_cases hr : c ∈ r
    · obtain ⟨A, B, e, hB⟩ := last_split hr
      exact ⟨a :: A, B, by rw [e]; rfl, hB⟩
    · rcases List.mem_cons.mp h with rfl | h
      · exact ⟨[], r, rfl, hr⟩
      · exact absurd h hr
theorem dots_off : ∀ n : List Nat, ∃ k r, n = List.replicate k 46 ++ r ∧ (r.takeWhile (#[46] : Array Nat).contains) = [] ∧ (n.takeWhile (#[46] : Array Nat).contains).length = k ∧ ∀ a r', r = a :: r' → a ≠ 46
  | [] => ⟨0, [], rfl, rfl, rfl, fun _ _ h => nomatch h⟩
  | a :: n => by
    by_cases h : a = 46
    · obtain ⟨k, r, e, h1, h2, h3⟩ := dots_off n
      refine ⟨k + 1, r, by rw [h, e]; rfl, h1, ?_, h3⟩
      subst h
      simp [← h2]
    · exact ⟨0, a :: n, rfl, by simp [h], by simp [h], fun _ _ e => by injection e with e1 _; rw [← e1]; exact h⟩
theorem lstrip_dots {n r : List Nat} {k : Nat} (e : n = List.replicate k 46 ++ r) (h : (n.takeWhile (#[46] : Array Nat).contains).length = k) : Txt.lstripChars (mkS n) (Str.ofString ".") = mkS r := by
  unfold Txt.lstripChars
  rw [dot_eq, PyProof.Rows.stripBy_eq]
  apply Str.ext'
  apply Array.toList_inj.mp
  rw [StrLaws.strSub_toList]
  unfold stripHi stripLo
  simp only [if_true, Bool.false_eq_true, if_false]
  rw [mkS_len]
  show List.take (n.length - (n.takeWhile (#[46] : Array Nat).contains).length) (n.drop (n.takeWhile (#[46] : Array Nat).contains).length) = _
  rw [h, e]
  simp
theorem ext_gen (P n : List Nat) (h : 47 ∉ n) (W : List Str) (en : Str) (hW : W = Txt.split (Txt.lstripChars (mkS n) (Str.ofString ".")) (Str.ofString ".")) (hen : en = if 1 < W.length then Str.ofString "." ++ W.getLastD (Str.ofString "") else Str.ofString "") :
    ExtOf (mkS (P ++ 47 :: n)) (Txt.slice (mkS (P ++ 47 :: n)) none (some (((mkS (P ++ 47 :: n)).length : Int) - (en.length : Int)))) en := by
  obtain ⟨k, r, e, h1, h2, h3⟩ := dots_off n
  rw [lstrip_dots e h2, dot_eq] at hW
  have hs : Txt.rfind (mkS (P ++ 47 :: n)) (Str.ofString "/") = (P.length : Int) := by rw [slash_eq]; exact rfind_at P n 47 h
  by_cases h4 : 46 ∈ r
  · obtain ⟨A, B, e2, hB⟩ := last_split h4
    obtain ⟨a, A', rfl⟩ : ∃ a A', A = a :: A' := by
      cases A with
      | nil => exact absurd rfl (h3 46 B e2)
      | cons a A' => exact ⟨a, A', rfl⟩
    have ha : a ≠ 46 := h3 a _ e2
    have hW2 : W = Txt.split (mkS (a :: A')) (mkS [46]) ++ [mkS B] := by
      rw [hW]
      have e3 : r = jl 46 (Txt.split (mkS (a :: A')) (mkS [46]) ++ [mkS B]) := by
        rw [jl_app 46 (split_ne _ _) (by simp), mkS_inj (jl_split (mkS (a :: A')) 46), e2]; rfl
      rw [e3]
      refine split_jl (by simp) fun x hx => ?_
      rcases List.mem_append.mp hx with hx | hx
      · exact split_free' _ 46 x hx
      · rw [List.mem_singleton.mp hx]; simpa using hB
    have hWl : 1 < W.length := by
      have := split_pos (mkS (a :: A')) (mkS [46])
      rw [hW2, List.length_append]; simp only [List.length_cons, List.length_nil]; omega
    have hen2 : en = mkS (46 :: B) := by
      rw [hen, if_pos hWl, hW2, List.getLastD_concat, dot_eq, mkS_app]; rfl
    have hx : P ++ 47 :: n = (P ++ 47 :: (List.replicate k 46 ++ a :: A')) ++ 46 :: B := by rw [e, e2]; simp
    have hr : Txt.rfind (mkS (P ++ 47 :: n)) (Str.ofString ".") = ((P ++ 47 :: (List.replicate k 46 ++ a :: A')).length : Int) := by
      rw [dot_eq, hx]; exact rfind_at _ _ _ hB
    have hl : (((mkS (P ++ 47 :: n)).length : Int) - (en.length : Int)) = ((P ++ 47 :: (List.replicate k 46 ++ a :: A')).length : Int) := by
      rw [hen2, mkS_len, mkS_len, hx, List.length_append]; omega
    have hk : (P.length : Int) + 1 + 1 * (k : Int) = ((P.length + 1 + k : Nat) : Int) := by omega
    constructor
    · intro j _ _ _
      rw [hl, hr]
      refine ⟨rfl, ?_⟩
      rw [hen2, slice_from _ _ (by rw [hx]; simp)]
      rw [hx, List.drop_left]
    · intro hall
      exfalso
      have := hall k (by omega) (by rw [hs, hr, hk]; simp; omega)
      rw [hs, hk, show (((P.length + 1 + k : Nat) : Int) + 1) = ((P.length + 1 + k + 1 : Nat) : Int) by omega, slice_mid _ _ _ (by omega) (by rw [hx]; simp; omega), dot_eq] at this
      rw [show P ++ 47 :: n = (P ++ 47 :: List.replicate k 46) ++ (a :: (A' ++ 46 :: B)) by rw [e, e2]; simp] at this
      rw [List.drop_append_of_le_length (by simp; omega), List.drop_of_length_le (by simp; omega)] at this
      have h9 : (mkS (List.take (P.length + 1 + k + 1 - (P.length + 1 + k)) ([] ++ a :: (A' ++ 46 :: B))) != mkS [46]) = true := by
        rw [show P.length + 1 + k + 1 - (P.length + 1 + k) = 1 by omega]
        rw [bne_iff_ne]
        intro e9
        have := mkS_inj e9
        simp at this
        exact ha this
      rw [this] at h9
      cases h9
  · have hW2 : W = [mkS r] := by
      rw [hW]
      exact split_jl (c := 46) (ws := [mkS r]) (by simp) (fun x hx => by rw [List.mem_singleton.mp hx]; simpa using h4)
    have hen2 : en = mkS [] := by rw [hen, hW2, if_neg (by simp), nil_eq]
    have hst : Txt.slice (mkS (P ++ 47 :: n)) none (some (((mkS (P ++ 47 :: n)).length : Int) - (en.length : Int))) = mkS (P ++ 47 :: n) := by
      rw [hen2, mkS_len, mkS_len, show (((P ++ 47 :: n).length : Int) - (([] : List Nat).length : Int)) = ((P ++ 47 :: n).length : Int) by simp, slice_to _ _ (Nat.le_refl _), List.take_length]
    constructor
    · intro j hj hlt hne
      exfalso
      rw [hs] at hlt hne
      cases k with
      | zero =>
        have h5 : 46 ∉ 47 :: n := by rw [e]; simpa using h4
        by_cases h6 : 46 ∈ P
        · obtain ⟨A, B, e2, hB⟩ := last_split h6
          have : Txt.rfind (mkS (P ++ 47 :: n)) (Str.ofString ".") = (A.length : Int) := by
            rw [dot_eq, e2, show A ++ 46 :: B ++ 47 :: n = A ++ 46 :: (B ++ 47 :: n) by simp]
            refine rfind_at _ _ _ fun hm => ?_
            rcases List.mem_append.mp hm with hm | hm
            · exact hB hm
            · exact h5 hm
          rw [this, e2, List.length_append, List.length_cons] at hlt
          omega
        · have : Txt.rfind (mkS (P ++ 47 :: n)) (Str.ofString ".") = -1 := by
            rw [dot_eq]
            refine rfind_none _ _ fun hm => ?_
            rcases List.mem_append.mp hm with hm | hm
            · exact h6 hm
            · exact h5 hm
          rw [this] at hlt
          omega
      | succ k =>
        have hx : P ++ 47 :: n = (P ++ 47 :: List.replicate k 46) ++ 46 :: r := by rw [e, List.replicate_succ']; simp
        have : Txt.rfind (mkS (P ++ 47 :: n)) (Str.ofString ".") = ((P.length + 1 + k : Nat) : Int) := by
          rw [dot_eq, hx, rfind_at _ _ _ h4]; simp; omega
        rw [this] at hlt
        obtain ⟨i, rfl⟩ : ∃ i : Nat, j = i := ⟨j.toNat, by omega⟩
        have hi : i < k := by omega
        rw [show (P.length : Int) + 1 + 1 * (i : Int) = ((P.length + 1 + i : Nat) : Int) by omega, show (((P.length + 1 + i : Nat) : Int) + 1) = ((P.length + 1 + i + 1 : Nat) : Int) by omega, slice_mid _ _ _ (by omega) (by rw [hx]; simp; omega), dot_eq, bne_iff_ne] at hne
        apply hne
        congr 1
        rw [show P.length + 1 + i + 1 - (P.length + 1 + i) = 1 by omega]
        have hg : (P ++ 47 :: n)[P.length + 1 + i]? = some 46 := by
          rw [List.getElem?_append_right (by omega), show P.length + 1 + i - P.length = i + 1 by omega, List.getElem?_cons_succ, e, List.getElem?_append_left (by simp; omega), List.getElem?_replicate, if_pos (by omega)]
        obtain ⟨hlt', hg'⟩ := List.getElem?_eq_some_iff.mp hg
        rw [List.drop_eq_getElem_cons hlt', hg']
        rfl
    · intro _
      refine ⟨hst, ?_⟩
      rw [hen2]
      exact (slice_to (P ++ 47 :: n) 0 (Nat.zero_le _)).symm
theorem last_pth {ns : List Str} : ∃ P, pth ns = mkS (P ++ 47 :: (ns.getLastD (Str.ofString "")).cps.toList) := by
  rw [pth_eq]
  by_cases h : ns = []
  · subst h; exact ⟨[], by rw [List.getLastD_nil, nil_eq]; rfl⟩
  · have e := List.dropLast_concat_getLast h
    have eg : ns.getLastD (Str.ofString "") = ns.getLast h := by rw [List.getLastD_eq_getLast?, List.getLast?_eq_some_getLast h]; rfl
    by_cases h2 : ns.dropLast = []
    · rw [h2] at e
      refine ⟨[], ?_⟩
      rw [eg]
      conv => lhs; rw [← e]
      rfl
    · refine ⟨47 :: jl 47 ns.dropLast, ?_⟩
      rw [eg]
      conv => lhs; rw [← e]
      rw [jl_app 47 h2 (by simp), jl_one]
      rfl
theorem ext_due {ns : List Str} (h : Nms ns) : ExtOf (pth ns) (dueSt ns) (dueEn ns) := by
  obtain ⟨P, e⟩ := last_pth (ns := ns)
  have hf : 47 ∉ (ns.getLastD (Str.ofString "")).cps.toList := by
    by_cases h0 : ns = []
    · subst h0; rw [List.getLastD_nil, nil_eq]; simp
    · have eg : ns.getLastD (Str.ofString "") = ns.getLast h0 := by rw [List.getLastD_eq_getLast?, List.getLast?_eq_some_getLast h0]; rfl
      rw [eg]; exact (h _ (List.getLast_mem h0)).free
  have := ext_gen P _ hf (dueWords ns) (dueEn ns) (by unfold dueWords; rw [mkS_cps]) rfl
  unfold dueSt
  rw [← e] at this
  exact this
end Mine
end
section
open PySem PySem.W PyProof.Rows PySem.Calls PySem.Spec
set_option Elab.async false
set_option maxRecDepth 100000
namespace Mine

theorem kind_isn : builtinKind "issubclass.nested" = none := by decide +kernel
theorem plain_isn : plainId "issubclass.nested" = true := by decide +kernel
theorem args_isn (a b c : Value) : argsOk "issubclass.nested" ⟨[a, b, c], []⟩ := by unfold argsOk; kernel_rfl

theorem isub_one (tk : Tok) : Meets (Builtin.«issubclass.nested» ⟨[.type "str", .type "str", .int 1 tk], []⟩) (fun _ R s => R (.ok (.ret (.bool true))) s) := by
  intro prog w A R s hs
  have h1 : typeOf (.type "str") = pure (.type "type") := PySem.W.kitMeta_of (by decide +kernel)
  have h2 : isSubtype (.type "str") (.type "str") = pure true := by rw [isSubtype_type]; kernel_rfl
  repeat (any_goals (first | assumption | (rw [h1]) | (rw [h2]) | (rw [if_pos (by decide)]) | wp_step))

theorem isub_tup {tp : Addr} {n : Nat} (tk : Tok) : Meets (Builtin.«issubclass.nested» ⟨[.type "str", .ref tp, .int 0 tk], []⟩)
    (fun _ R s => s.heap.get? tp = some ⟨.type "tuple", none, .seq #[.type "str", .type "bytes"] n, #[]⟩ ∧ R (.ok (.ret (.bool true))) s) := by
  intro prog w A R s hs
  obtain ⟨h, g, d, tt, os⟩ := s
  obtain ⟨htp, hq⟩ := hs
  have hT2 : (⟨h, g, d, tt, os⟩ : Shared).TypeIs (.ref tp) "tuple" := ⟨_, htp, rfl⟩
  have f1 := F.isi_sub_tuple
  unfold Builtin.«issubclass.nested»
  repeat (any_goals (first | assumption | (refine call_function_meets kind_isn plain_isn F.entry_issubclass_nested (args_isn _ _ _) (isub_one _) ?_) | wp_step))

theorem isub_call {prog : Program} {w : World} {A : Around} {E : Value → Shared → Prop} {s : Shared} {Q : Value → Shared → Prop} {tp : Addr} {n : Nat} (htp : s.heap.get? tp = some ⟨.type "tuple", none, .seq #[.type "str", .type "bytes"] n, #[]⟩) (h : Q (.bool true) s) :
    wpAny (model prog w) A (call (.builtin "issubclass") [.type "str", .ref tp]) Q E s :=
  call_issubclass (S := fun _ R s => s.heap.get? tp = some ⟨.type "tuple", none, .seq #[.type "str", .type "bytes"] n, #[]⟩ ∧ R (.ok (.ret (.bool true))) s)
    (fun prog w A R s hs => issubclass_outer (isub_tup _ prog w A R s hs)) ⟨htp, h⟩
end Mine
end
section
open PySem PySem.W PyProof.Rows PySem.Calls PySem.Spec
set_option Elab.async false
namespace Mine

/-- a call of the def at f by vs, whose answer is of R, that changes nothing of the ledger; k: its level (frames, units) -/
abbrev Pure1 (w : World) (k : Nat) (f : Addr) (vs : List Value) (pre : List (Addr × Obj) → Prop) (R : Tok → Value) : Prop :=
  ∀ (p : Program) (loose : List Str) (mean : ExcName → Option Value) (mg mb : Str → Option Value) (dp un : Nat) (gd : Option (List Code)) (cn : Str) (cs : Scope) (a : Addr) (ccd : Value) (cl : List (Str × Addr)) (outer : List Env) (A₀ : Around) (base h₀ : Heap) (L : Addr) (m : Str → Option Value) (news : List (Addr × Obj)) (s : Shared) (Q E : Value → Shared → Prop),
    Below A₀ base outer h₀ → Fr h₀ L s.heap m → (Mine.hd.heap_1 w.params).In h₀ → News h₀ L s.heap news → Top p loose mean mg mb h₀ → cs.kind = .function →
    dp + k < recursionLimit → un + 8 * k < cLine → pre news →
    (∀ (t : Tok) (h' : Heap) (tk' : Nat), Fr h₀ L h' m → News h₀ L h' news → Q (R t) { s with heap := h', toks := tk' }) →
      wpAny (model PySem.Challenge.rw_in0194_01.row.prog w) (ktrTop dp un gd cn cs L a ccd cl outer) (call (.ref f) vs) Q E s

/-- the same, where the answer may bear new objects: R says what the ledger's head says of it -/
abbrev Make1 (w : World) (k : Nat) (f : Addr) (vs : List Value) (pre : List (Addr × Obj) → Prop) (R : List (Addr × Obj) → Value → Prop) : Prop :=
  ∀ (p : Program) (loose : List Str) (mean : ExcName → Option Value) (mg mb : Str → Option Value) (dp un : Nat) (gd : Option (List Code)) (cn : Str) (cs : Scope) (a : Addr) (ccd : Value) (cl : List (Str × Addr)) (outer : List Env) (A₀ : Around) (base h₀ : Heap) (L : Addr) (m : Str → Option Value) (news : List (Addr × Obj)) (s : Shared) (Q E : Value → Shared → Prop),
    Below A₀ base outer h₀ → Fr h₀ L s.heap m → (Mine.hd.heap_1 w.params).In h₀ → News h₀ L s.heap news → Top p loose mean mg mb h₀ → cs.kind = .function →
    dp + k < recursionLimit → un + 8 * k < cLine → pre news →
    (∀ (v : Value) (tl : List (Addr × Obj)) (h' : Heap) (tk' : Nat), R tl v → Fr h₀ L h' m → News h₀ L h' (tl ++ news) → (∀ q ∈ news, ∀ p ∈ tl, q.1 < p.1) → Q v { s with heap := h', toks := tk' }) →
      wpAny (model PySem.Challenge.rw_in0194_01.row.prog w) (ktrTop dp un gd cn cs L a ccd cl outer) (call (.ref f) vs) Q E s

section
variable {w : World} {k : Nat} {f : Addr} {vs : List Value} {pre : List (Addr × Obj) → Prop} {p : Program} {loose : List Str} {mean : ExcName → Option Value} {mg mb : Str → Option Value} {dp un : Nat} {gd : Option (List Code)} {cn : Str} {cs : Scope} {a : Addr} {ccd : Value} {cl : List (Str × Addr)} {outer : List Env} {A₀ : Around} {base h₀ : Heap} {L : Addr} {m : Str → Option Value} {news : List (Addr × Obj)} {s : Shared} {Q E : Value → Shared → Prop}
theorem pure_use {R : Tok → Value} (B : Below A₀ base outer h₀) (F : Fr h₀ L s.heap m) (X : (Mine.hd.heap_1 w.params).In h₀) (N : News h₀ L s.heap news) (T : Top p loose mean mg mb h₀) (hk : cs.kind = .function) (C : Pure1 w k f vs pre R)
    (hd : dp + k < recursionLimit) (hu : un + 8 * k < cLine) (hp : pre news)
    (ret : ∀ (t : Tok) (h' : Heap) (tk' : Nat), Fr h₀ L h' m → News h₀ L h' news → Q (R t) { s with heap := h', toks := tk' }) :
    wpAny (model PySem.Challenge.rw_in0194_01.row.prog w) (ktrTop dp un gd cn cs L a ccd cl outer) (call (.ref f) vs) Q E s :=
  C p loose mean mg mb dp un gd cn cs a ccd cl outer A₀ base h₀ L m news s Q E B F X N T hk hd hu hp ret
theorem make_use {R : List (Addr × Obj) → Value → Prop} (B : Below A₀ base outer h₀) (F : Fr h₀ L s.heap m) (X : (Mine.hd.heap_1 w.params).In h₀) (N : News h₀ L s.heap news) (T : Top p loose mean mg mb h₀) (hk : cs.kind = .function) (C : Make1 w k f vs pre R)
    (hd : dp + k < recursionLimit) (hu : un + 8 * k < cLine) (hp : pre news)
    (ret : ∀ (v : Value) (tl : List (Addr × Obj)) (h' : Heap) (tk' : Nat), R tl v → Fr h₀ L h' m → News h₀ L h' (tl ++ news) → (∀ q ∈ news, ∀ p ∈ tl, q.1 < p.1) → Q v { s with heap := h', toks := tk' }) :
    wpAny (model PySem.Challenge.rw_in0194_01.row.prog w) (ktrTop dp un gd cn cs L a ccd cl outer) (call (.ref f) vs) Q E s :=
  C p loose mean mg mb dp un gd cn cs a ccd cl outer A₀ base h₀ L m news s Q E B F X N T hk hd hu hp ret
end
noncomputable abbrev noPre : List (Addr × Obj) → Prop := fun _ => True
end Mine
end
section
open PySem PySem.W PyProof.Rows PySem.Calls PySem.Spec
set_option Elab.async false
namespace Mine
example : PySem.Challenge.rw_in0194_01 = PySem.Challenge.rw_in0194_01 ∧ Mine.hd.heap_1 = Mine.hd.heap_1 := by
  k_fill
  exact ⟨rfl, rfl⟩

local macro_rules | `(tactic| walk_at "call builtin:issubclass") => `(tactic| (k_here; k_dflt (refine' isub_call ?k1 ?_; (case k1 => exact News.get (by k_asm) (by k_mem)); k_whole)))

set_option maxRecDepth 100000 in
set_option maxHeartbeats 8000000 in
theorem fspath_c (w : World) (x : Str) (t : Tok) : Pure1 w 1 149 [.str x t] noPre (fun t => .str x t) := by
  unfold Pure1
  intros; rename_i hret; (refine wpAny_call ?_; k_dflt ktr_enter)
  k_steps
  exact hret _ _ _ (by k_asm) (cb_drop (by assumption) (fun _ h => List.mem_cons_of_mem _ h))

set_option maxRecDepth 100000 in
set_option maxHeartbeats 8000000 in
theorem get_sep_c (w : World) (x : Str) (t : Tok) : Pure1 w 1 170 [.str x t] noPre (fun t => .str "/" t) := by
  unfold Pure1
  intros; rename_i hret; (refine wpAny_call ?_; k_dflt ktr_enter)
  k_steps
  exact hret _ _ _ (by k_asm) (by k_asm)
end Mine
end
section
open PySem PySem.W PyProof.Rows PySem.Calls PySem.Spec Builtin
set_option Elab.async false
set_option maxRecDepth 100000
namespace Mine

noncomputable abbrev mro72 : List Value := [.ref 72, .type "collections.defaultdict", .type "dict", .type "object"]
structure FD (M : Model) (h : Heap) : Prop where
  obj : ∃ oc od cd sl, h.get? 72 = some ⟨oc, od, .cls cd, sl⟩ ∧ cd.hasDel = false ∧ cd.hasDict = true ∧ cd.mro = mro72 ∧ (sl[4]?).join = some (.builtin "dict.__new__")
  typ : Looks M h (isInstance (.ref 72) (.type "type")) true
  call : Looks M h (specialOf (.ref 72) "__call__") (some (.builtin "type.__call__"))
  dct : Looks M h (isSubtype (.ref 72) (.type "dict")) true
  dfd : Looks M h (isSubtype (.ref 72) (.type "collections.defaultdict")) true
  own : Looks M h (isSubtype (.ref 72) (.ref 72)) true
  nod : Looks M h (isSubtype (.ref 72) (.type "collections.OrderedDict")) false
  mro : Looks M h (mroOf (.ref 72)) mro72
  init : Looks M h (typeLookup (.ref 72) "__init__") (some (.builtin "collections.defaultdict.__init__"))
  getitem : Looks M h (typeLookup (.ref 72) "__getitem__") (some (.builtin "dict.__getitem__"))
  setitem : Looks M h (typeLookup (.ref 72) "__setitem__") (some (.builtin "dict.__setitem__"))
  missing : Looks M h (typeLookup (.ref 72) "__missing__") (some (.ref 62))
  iter : Looks M h (typeLookup (.ref 72) "__iter__") (some (.builtin "dict.__iter__"))

set_option maxHeartbeats 4000000 in
theorem fd_of {w : World} {M : Model} {h : Heap} (X : (Mine.hd.heap_1 w.params).In h) : FD M h where
  obj := by
    refine ⟨_, _, _, _, X 72 _ (by k_is), ?_, ?_, ?_, ?_⟩
    · exact rfl
    · exact rfl
    · exact rfl
    · exact rfl
  typ := looks_instIn X (by k_is)
  call := looks_specialIn X (by k_is)
  dct := looks_mroIn X (by k_is)
  dfd := looks_mroIn X (by k_is)
  own := looks_mroIn X (by k_is)
  nod := looks_mroIn X (by k_is)
  mro := (looks_clsIn X (by k_is)).andThen .now
  init := looks_findIn X (by k_is)
  getitem := looks_findIn X (by k_is)
  setitem := looks_findIn X (by k_is)
  missing := looks_findIn X (by k_is)
  iter := looks_findIn X (by k_is)

theorem FD.keeps {M : Model} {h h' : Heap} (Y : FD M h) (k : ∀ b o, h.get? b = some o → h'.get? b = some o) : FD M h' where
  obj := let ⟨a, b, c, d, e, r⟩ := Y.obj; ⟨a, b, c, d, k _ _ e, r⟩
  typ := Y.typ.keeps k
  call := Y.call.keeps k
  dct := Y.dct.keeps k
  dfd := Y.dfd.keeps k
  own := Y.own.keeps k
  nod := Y.nod.keeps k
  mro := Y.mro.keeps k
  init := Y.init.keeps k
  getitem := Y.getitem.keeps k
  setitem := Y.setitem.keeps k
  missing := Y.missing.keeps k
  iter := Y.iter.keeps k

theorem FD.made {M : Model} {h : Heap} (Y : FD M h) : Looks M h (Bind.madeBy (.ref 72)) (some "dict.__new__") := by
  intro A Q E s k q
  obtain ⟨oc, od, cd, sl, ho, _, _, _, e3⟩ := Y.obj
  unfold Bind.madeBy
  refine wpAny_bind (Y.mro A _ E s k ?_)
  rw [List.forIn_cons]
  refine wpAny_bind (wpAny_bind (wpAny_bind (wpAny_bind (wpAny_loadPart (k _ _ ho) (wpAny_pure ?_)))))
  dsimp only
  rw [e3]
  exact wpAny_pure (wpAny_pure (wpAny_pure q))
theorem FD.base {M : Model} {h : Heap} (Y : FD M h) : Looks M h (Bind.staticBase (.ref 72)) (.ref 72) := by
  intro A Q E s k q
  unfold Bind.staticBase
  refine wpAny_bind (Y.mro A _ E s k ?_)
  rw [List.forIn_cons]
  exact wpAny_bind (wpAny_bind (wpAny_bind (Y.made A _ E s k (wpAny_pure (wpAny_pure (wpAny_pure q))))))
theorem FD.istype {M : Model} {h : Heap} (Y : FD M h) : Looks M h (isType (.ref 72)) true := by
  intro A Q E s k q
  obtain ⟨oc, od, cd, sl, ho, _⟩ := Y.obj
  unfold isType loadHead
  exact wpAny_bind (wpAny_loadPart (k _ _ ho) (wpAny_pure q))

/-- an object of FreezableDefaultDict: factory, dict of its own, entries -/
noncomputable abbrev fdd (fac : Value) (dx : Addr) (es : Array DictEntry) (n : Nat) : Obj := { cls := .ref 72, dict := some dx, data := .dict es n, slots := #[some fac] }

theorem FD.ty {M : Model} {h : Heap} {x : Addr} {o : Obj} (_Y : FD M h) (hx : h.get? x = some o) (hc : o.cls = .ref 72) : Looks M h (typeOf (.ref x)) (.ref 72) := hc ▸ (Looks.ld hx).andThen .now
end Mine
end
section
open PySem PySem.W PyProof.Rows PySem.Calls PySem.Spec Builtin
set_option Elab.async false
set_option maxRecDepth 100000
namespace Mine
theorem dn_split : splitId "dict.__new__" = some ("dict", "__new__") := by decide +kernel
theorem dn_kind : builtinKind "dict.__new__" = some .builtinFn := by decide +kernel
theorem dn_args (a : Addr) (rest : List Value) : argsOk "dict.__new__" ⟨.ref a :: rest, []⟩ := by unfold argsOk; kernel_rfl
theorem args_pass {M : Model} {A : Around} {E : Value → Shared → Prop} {s : Shared} {i : String} {a : Args} {Q : Unit → Shared → Prop} (ha : argsOk i a) (q : Q () s) :
    wpAny M A (match Manifest.signature? i with | some sig => Bind.checkArgs i sig a | none => pure ()) Q E s := by
  cases hsig : Manifest.signature? i with
  | none => exact wpAny_pure q
  | some sig =>
    simp only [argsOk, hsig] at ha
    have h2 : Bind.checkArgs i sig a = pure () := ha
    show wpAny M A (Bind.checkArgs i sig a) Q E s
    rw [h2]; exact wpAny_pure q
theorem dn_entry : entryFor table "dict.__new__" = some Builtin.«dict.__new__» := entryFor_of_tree (by kernel_rfl)
theorem dn_quiet : ("dict.__new__").startsWith "lifetime." = false := by decide +kernel

theorem dnew {prog : Program} {w : World} {A : Around} {R : Result → Shared → Prop} {h : Heap} {g : Array GenState} {d : Drawn} {t : Nat} {os : OsState} {rest : List Value}
    (Y : FD (model prog w) h) (hq : R (.ok (.ret (.ref (h.objs.size + 1)))) ⟨(h.push emptyDict).push { cls := .ref 72, dict := some h.objs.size, data := .dict #[] }, g, d, t, os⟩) :
    codeAny (model prog w) A (.call (.builtin "dict.__new__") ⟨.ref 72 :: rest, []⟩) R ⟨h, g, d, t, os⟩ := by
  refine codeAny_call_builtin_code (Code.quiet_builtin _ dn_quiet) ?_
  have made := Y.made
  have base := Y.base
  have ist := Y.istype
  obtain ⟨⟨oc, od, cd, sl, hC, e3, e4, e5, e6⟩, typ, call, dct, dfd, own, nod, mro, init, gi, si, mi, it⟩ := Y
  simp only [checkBuiltinCall, dn_kind, dn_split]
  repeat (first | simp only [bne_self_eq_false, Bool.false_eq_true, if_false] | (with_reducible refine args_pass (dn_args _ _) ?_) | lk)
  refine codeAny_builtin dn_entry ?_
  unfold Builtin.«dict.__new__»
  repeat (first | simp only [bne_self_eq_false, Bool.false_eq_true, if_false] | lk)
  refine nd_load (Heap.get?_push_of_some _ (Heap.get?_push_of_some _ hC)) ?_
  refine wpAny_pure ?_
  dsimp only
  rw [e3]
  repeat lk
  rw [Heap.size_push]
  exact hq

theorem di_kind : builtinKind "collections.defaultdict.__init__" = some .slot := by decide +kernel
theorem di_split : splitId "collections.defaultdict.__init__" = some ("collections.defaultdict", "__init__") := by decide +kernel
theorem di_args (a b : Value) : argsOk "collections.defaultdict.__init__" ⟨[a, b], []⟩ := by unfold argsOk; kernel_rfl
theorem di_entry : entryFor table "collections.defaultdict.__init__" = some Builtin.«collections.defaultdict.__init__» := entryFor_of_tree (by kernel_rfl)
theorem di_plain : plainId "collections.defaultdict.__init__" = true := by decide +kernel
theorem di_bind (self : Value) : bindSpecial (.builtin "collections.defaultdict.__init__") self = pure (.builtin "collections.defaultdict.__init__", [self]) :=
  (Slot.of (T := "collections.defaultdict") (name := "__init__") (owner := "collections.defaultdict") (n := "__init__") (by rw [typeLookup_type, builtinLookup_eq_fast]; kernel_rfl) (by decide +kernel) (by decide +kernel) (by decide +kernel)
    (by first | exact .inl (by decide +kernel) | exact .inr (by decide +kernel)) (by rw [isSubtype_type]; kernel_rfl)).bind self
theorem dict_init_entry : entryFor table "dict.__init__" = some Builtin.«dict.__init__» := entryFor_of_tree (by kernel_rfl)

noncomputable def putFac (fac : Value) (o : Obj) : Obj := { o with slots := (o.slots ++ Array.replicate (0 + 1 - o.slots.size) none).setIfInBounds 0 (some fac) }
theorem dinit {prog : Program} {w : World} {A : Around} {R : Result → Shared → Prop} {h₀ h : Heap} {g : Array GenState} {d : Drawn} {t : Nat} {os : OsState} {x dx : Addr} {fac c : Value}
    (Y₀ : FD (model prog w) h₀) (k : ∀ b o, h₀.get? b = some o → h.get? b = some o) (h0 : h₀.get? x = none) (hx : h.get? x = some { cls := .ref 72, dict := some dx, data := .dict #[] }) (hf : Looks (model prog w) h (specialOf fac "__call__") (some c)) (hn : (fac != .none) = true)
    (hq : R (.ok (.ret .none)) ⟨h.update x (putFac fac), g, d, t, os⟩) :
    codeAny (model prog w) A (.call (.builtin "collections.defaultdict.__init__") ⟨[.ref x, fac], []⟩) R ⟨h, g, d, t, os⟩ := by
  have Y := Y₀.keeps k
  have ty := Y.ty hx rfl
  obtain ⟨⟨oc, od, cd, sl, hC, e3, e4, e5, e6⟩, typ, call, dct, dfd, own, nod, mro, init, gi, si, mi, it⟩ := Y
  refine codeAny_call_builtin di_plain di_entry (@check_slot (model prog w) _ _ _ "collections.defaultdict.__init__" "collections.defaultdict" "__init__" (.ref x) [fac] [] _ di_kind di_split (ty.andThen dfd) (di_args _ _) ?_)
  unfold Builtin.«collections.defaultdict.__init__»
  repeat (first | simp only [hn, if_true] | lk)
  have hne : (some (((#[] : Array (Option Value))[0]?.join).getD Value.none) != [fac].head?) = true := by
    cases fac <;> first | rfl | exact absurd hn (by decide)
  rw [if_pos hne]
  refine wpAny_bind (m := slotLetsGo _ _ _) (wpAny_pure ?_)
  unfold setSlotAt
  rw [if_neg (by rw [sizeLine_eq]; decide)]
  refine wpAny_updatePart hx ?_
  show wpAny _ _ _ _ _ ⟨h.update x (putFac fac), g, d, t, os⟩
  have k' : ∀ b o, h₀.get? b = some o → (h.update x (putFac fac)).get? b = some o := fun b o e =>
    (Heap.get?_update_ne _ _ _ _ (fun z => by subst z; rw [h0] at e; cases e)).trans (k b o e)
  have hx' : (h.update x (putFac fac)).get? x = some (fdd fac dx #[] 0) := Heap.get?_update_self _ hx rfl
  have Y' := Y₀.keeps k'
  have ty' := Y'.ty hx' rfl
  generalize hh : h.update x (putFac fac) = h' at *
  clear typ call dct dfd own nod mro init gi si mi it ty k hx hC hf
  obtain ⟨-, typ, call, dct, dfd, own, nod, mro, init, gi, si, mi, it⟩ := Y'
  refine wpAny_bind (wpAny_holding (wpAny_runValue ?_))
  refine codeAny_builtin dict_init_entry ?_
  unfold Builtin.«dict.__init__»
  repeat lk
  exact hq
end Mine
end
section
open PySem PySem.W PyProof.Rows PySem.Calls PySem.Spec Builtin
set_option Elab.async false
set_option maxRecDepth 100000
namespace Mine
theorem mk_core {prog : Program} {w : World} {A : Around} {R : Result → Shared → Prop} {h : Heap} {g : Array GenState} {d : Drawn} {t : Nat} {os : OsState} {fac c : Value}
    (Y : FD (model prog w) h) (hf : Looks (model prog w) h (specialOf fac "__call__") (some c)) (hn : (fac != .none) = true)
    (hq : R (.ok (.ret (.ref (h.objs.size + 1)))) ⟨((h.push emptyDict).push { cls := .ref 72, dict := some h.objs.size, data := .dict #[] }).update (h.objs.size + 1) (putFac fac), g, d, t, os⟩) :
    codeAny (model prog w) A (.call (.ref 72) ⟨[fac], []⟩) R ⟨h, g, d, t, os⟩ := by
  have Y' := Y
  obtain ⟨⟨oc, od, cd, sl, hC, e3, e4, e5, e6⟩, typ, call, dct, dfd, own, nod, mro, init, gi, si, mi, it⟩ := Y
  have made := Y'.made
  refine codeAny_of_tree ?_
  show wpAny _ _ (callAny (.ref 72) _) _ _ _
  refine nd_load hC ?_
  show wpAny _ _ (callAny.viaDunder (.ref 72) _) _ _ _
  unfold callAny.viaDunder
  refine wpAny_bind (call.at ?_)
  dsimp only
  rw [tc_bind]
  refine wpAny_bind (wpAny_pure (wpAny_bind (wpAny_pure ?_)))
  refine wpAny_pure (a := Fin.again (.call (.builtin "type.__call__") ⟨.ref 72 :: [fac], []⟩)) (And.intro rfl ?_)
  refine codeAny_call_builtin_at (Code.quiet_builtin _ (by decide +kernel)) entry_typeCall (check_slot tc_kind tc_split typ (tc_args _ _ _) ?_)
  unfold Builtin.«type.__call__»
  repeat (first | simp only [Bool.false_eq_true, if_false] | with_reducible refine wpAny_call ?_ | lk)
  refine dnew Y' ?_
  have k : ∀ b o, h.get? b = some o → ((h.push emptyDict).push { cls := .ref 72, dict := some h.objs.size, data := .dict #[] }).get? b = some o := fun b o e => Heap.get?_push_of_some _ (Heap.get?_push_of_some _ e)
  have hx : ((h.push emptyDict).push { cls := .ref 72, dict := some h.objs.size, data := .dict #[] }).get? (h.objs.size + 1) = some { cls := .ref 72, dict := some h.objs.size, data := .dict #[] } := by heap_get
  have h0 : h.get? (h.objs.size + 1) = none := by
    cases e : h.get? (h.objs.size + 1) with
    | none => rfl
    | some o => exact absurd (Heap.lt_size e) (Nat.not_lt.mpr (Nat.le_succ _))
  have hf' := hf.keeps k
  have Y2 := Y'.keeps k
  have ty := Y2.ty hx rfl
  have s1 := own.keeps k
  have i1 := init.keeps k
  have b1 : Looks (model prog w) ((h.push emptyDict).push { cls := .ref 72, dict := some h.objs.size, data := .dict #[] }) (bindSpecial (.builtin "collections.defaultdict.__init__") (.ref (h.objs.size + 1))) (.builtin "collections.defaultdict.__init__", [.ref (h.objs.size + 1)]) := Looks.of_pure (di_bind _)
  unfold isInstance callSpecial? specialOf
  generalize hH : (h.push emptyDict).push { cls := .ref 72, dict := some h.objs.size, data := .dict #[] } = H at *
  repeat (first | with_reducible refine wpAny_call ?_ | lk)
  refine dinit Y' k h0 hx hf' hn ?_
  exact wpAny_pure (wpAny_pure hq)

theorem new_fdd {prog : Program} {w : World} {A : Around} {s : Shared} {h₀ : Heap} {L : Addr} {m : Str → Option Value} {news : List (Addr × Obj)} {E : Value → Shared → Prop} {Q : Value → Shared → Prop} {fac : Value}
    (F : Fr h₀ L s.heap m) (X₀ : (Mine.hd.heap_1 w.params).In h₀) (N : News h₀ L s.heap news) (hf : fac = .type "int" ∨ fac = .type "list")
    (h : ∀ x dx h', Fr h₀ L h' m → News h₀ L h' ((x, fdd fac dx #[] 0) :: (dx, emptyDict) :: news) → (∀ p ∈ news, p.1 < dx) → dx < x → Q (.ref x) { s with heap := h' }) :
    wpAny (model prog w) A (call (.ref 72) [fac]) Q E s := by
  have Y := fd_of (M := model prog w) (X₀.keeps F.keep)
  obtain ⟨hh, g, d, t, os⟩ := s
  have N' := (N.push F emptyDict).push (F.push _) { cls := .ref 72, dict := some hh.objs.size, data := .dict #[] }
  rw [Heap.size_push] at N'
  obtain ⟨F2, N2⟩ := news_upd (pre := []) (f := putFac fac) ((F.push _).push _) N' (fun _ hp => nomatch hp) (fun p hp => by
    rcases List.mem_cons.mp hp with rfl | hp
    · exact Nat.ne_of_lt (Nat.lt_succ_self _)
    · exact Nat.ne_of_lt (Nat.lt_succ_of_lt (Heap.lt_size (N p hp).1))) rfl rfl
  have hc : Looks (model prog w) hh (specialOf fac "__call__") (some (.builtin "type.__call__")) := by
    have ht : typeOf fac = pure (.type "type") := by rcases hf with rfl | rfl <;> exact kitMeta_of (by decide +kernel)
    refine Looks.of_pure ?_
    unfold specialOf
    rw [ht]
    show typeLookup (.type "type") "__call__" = _
    rw [typeLookup_type, builtinLookup_eq_fast]; kernel_rfl
  refine wpAny_call (mk_core Y hc (by rcases hf with rfl | rfl <;> decide) ?_)
  exact h _ hh.objs.size _ F2 N2 (fun p hp => Heap.lt_size (N p hp).1) (Nat.lt_succ_self _)
end Mine
end
section
open PySem PySem.Spec
set_option Elab.async false
set_option maxRecDepth 100000
namespace Mine
section
variable {M : Model} {A : Around} {c : Code} {E : Value → Shared → Prop} {s : Shared}
theorem at_spliced_nil {Q : List Value → Shared → Prop} (h : Q [] s) : _root_.PySem.wpAt M A c (spliced []) Q E s := wpAt_of_wpAny (wpAny_pure h)
theorem at_spliced_cons {x : Sem Value} {rest : List (Bool × Sem Value)} {Q : List Value → Shared → Prop}
    (h : _root_.PySem.wpAt M A c x (fun v s₁ => _root_.PySem.wpAt M A c (spliced rest) (fun vs s₂ => Q (v :: vs) s₂) E s₁) E s) : _root_.PySem.wpAt M A c (spliced ((false, x) :: rest)) Q E s := by
  rw [spliced]
  refine wpAt_bind (wpAt_mono h (fun v s₁ h₁ => ?_) fun _ _ x => x)
  simp only [Bool.false_eq_true, if_false]
  exact wpAt_bind (wpAt_of_wpAny (wpAny_pure (wpAt_bind (ks_wpAt_holding (wpAt_mono h₁ (fun vs s₂ h₂ => wpAt_of_wpAny (wpAny_pure h₂)) fun _ _ x => x)))))
theorem at_evalArgs {f : Value} {x : Sem Value} {rest : List (Bool × Sem Value)} {Q : Args → Shared → Prop}
    (h : _root_.PySem.wpAt M A c (spliced ((false, x) :: rest)) (fun vs s' => Q ⟨vs, []⟩ s') E s) : _root_.PySem.wpAt M A c (evalArgs f true ((false, x) :: rest) []) Q E s := by
  unfold evalArgs
  show _root_.PySem.wpAt M A c (spliced ((false, x) :: rest) >>= _) Q E s
  refine wpAt_bind (wpAt_mono h (fun vs s' h' => ?_) fun _ _ x => x)
  refine ks_wpAt_holding ?_
  exact wpAt_bind (wpAt_of_wpAny (wpAny_pure (wpAt_bind (wpAt_of_wpAny (wpAny_pure (wpAt_of_wpAny (wpAny_pure h')))))))
theorem at_none {env : Env} {pos : Pos} {Q : List Value → Shared → Prop} (h : Q [] s) : _root_.PySem.wpAt M A c (spliced (backTo pos (starEach [] env))) Q E s := at_spliced_nil h
theorem at_more {env : Env} {e : Expr} {rest : List Expr} {pos : Pos} {Q : List Value → Shared → Prop}
    (h : _root_.PySem.wpAt M A c (eval e env) (fun v s₁ => _root_.PySem.wpAt M A c (spliced (backTo pos (starEach rest env))) (fun vs s₂ => Q (v :: vs) s₂) E s₁) E s)
    (he : starEach (e :: rest) env = (false, eval e env) :: starEach rest env := by rfl) : _root_.PySem.wpAt M A c (spliced (backTo pos (starEach (e :: rest) env))) Q E s := by
  rw [he]; exact at_spliced_cons h
theorem at_args {f : Value} {env : Env} {e : Expr} {rest : List Expr} {pos : Pos} {Q : Args → Shared → Prop}
    (h : _root_.PySem.wpAt M A c (spliced (backTo pos (starEach (e :: rest) env))) (fun vs s' => Q ⟨vs, []⟩ s') E s)
    (he : starEach (e :: rest) env = (false, eval e env) :: starEach rest env := by rfl) : _root_.PySem.wpAt M A c (evalArgs f true (backTo pos (starEach (e :: rest) env)) []) Q E s := by
  rw [he] at h ⊢; exact at_evalArgs h
theorem at_callWith_builtin {pos : Pos} {id : String} {first : List Value} {args : List (Bool × Sem Value)} {Q : Value → Shared → Prop} (hplain : args.any (·.1) = false)
    (h : _root_.PySem.wpAt M A c (evalArgs (.builtin id) true args []) (fun a s₁ => wpAny M A (call (.builtin id) (first ++ a.pos) a.kw) Q E s₁) E s) :
    _root_.PySem.wpAt M A c (callWith pos (.builtin id) first args []) Q E s := by
  unfold callWith
  refine wpAt_bind (ks_wpAt_holding (wpAt_mono h (fun a s₁ h₁ => wpAt_of_wpAny (wpAny_bind (wpAny_standAt ?_))) fun _ _ x => x))
  simp only [hplain, List.any_nil, Bool.or_false]
  refine wpAny_bind (wpAny_pure ?_)
  exact wpAny_bind (wpAny_mono h₁ (fun r s₂ hr => wpAny_bind (wpAny_holding (wpAny_point (wpAny_pure hr)))) fun _ _ x => x)
end
end Mine
end
section
open PySem PySem.W PyProof.Rows PySem.Calls PySem.Spec Builtin
set_option Elab.async false
set_option maxRecDepth 100000
namespace Mine
noncomputable abbrev missId : String := "collections.defaultdict.__missing__"
theorem slot_mdget : Slot "method_descriptor" "__get__" "method_descriptor.__get__" :=
  .of (owner := "method_descriptor") (n := "__get__") (by rw [typeLookup_type, builtinLookup_eq_fast]; kernel_rfl) (by decide +kernel) (by decide +kernel) (by decide +kernel)
    (by first | exact .inl (by decide +kernel) | exact .inr (by decide +kernel)) (by rw [isSubtype_type]; kernel_rfl)
theorem entry_mdget : entryFor table "method_descriptor.__get__" = some Builtin.«method_descriptor.__get__» := entryFor_of_tree (by kernel_rfl)
theorem args_mdget (a b c : Value) : argsOk "method_descriptor.__get__" ⟨[a, b, c], []⟩ := by unfold argsOk; kernel_rfl
theorem miss_type : typeOf (.builtin "collections.defaultdict.__missing__") = pure (.type "method_descriptor") := by show builtinType _ = _; rw [builtinType_eq_fast]; kernel_rfl
section
variable {prog : Program} {w : World} {A : Around} {E : Value → Shared → Prop} {h : Heap} {g : Array GenState} {d : Drawn} {t : Nat} {os : OsState} {Q : Value → Shared → Prop}
noncomputable abbrev bfm (x : Addr) : Obj := { cls := .type "builtin_function_or_method", data := .fields #[.builtin "collections.defaultdict.__missing__", .ref x] }
set_option maxHeartbeats 4000000 in
theorem mdget_call {x : Addr} {o : Obj} (Y : FD (model prog w) h) (hx : h.get? x = some o) (hc : o.cls = .ref 72)
    (hq : Q (.ref h.objs.size) ⟨h.push (bfm x), g, d, t, os⟩) :
    wpAny (model prog w) A (call (.builtin "method_descriptor.__get__") [.builtin "collections.defaultdict.__missing__", .ref x, .ref 72]) Q E ⟨h, g, d, t, os⟩ := by
  have hT : (⟨h, g, d, t, os⟩ : Shared).TypeIs (.builtin "collections.defaultdict.__missing__") "method_descriptor" := miss_type
  have ty := Y.ty hx hc
  have dfd := Y.dfd
  refine wpAny_call_entry slot_mdget hT entry_mdget ?_ (args_mdget _ _ _)
  have inst : Looks (model prog w) h (isInstance (.ref x) (.type "collections.defaultdict")) true := ty.andThen dfd
  have e : ".".intercalate ("collections.defaultdict.__missing__".cutAt '.').dropLast = "collections.defaultdict" := by decide +kernel
  have inst' : Looks (model prog w) h (isInstance (.ref x) (.type (".".intercalate ("collections.defaultdict.__missing__".cutAt '.').dropLast))) true := by rw [e]; exact inst
  clear inst ty dfd hT Y
  unfold Builtin.«method_descriptor.__get__»
  repeat lk
  exact ⟨_, rfl, hq⟩

end
end Mine
end
section
open PySem PySem.Spec
set_option Elab.async false
set_option maxRecDepth 100000
namespace Mine
section
variable {M : Model} {A : Around} {c : Code} {E : Value → Shared → Prop} {s : Shared}
theorem at_callWith_bfm {pos : Pos} {u x : Addr} {first : List Value} {args : List (Bool × Sem Value)} {Q : Value → Shared → Prop} (hplain : args.any (·.1) = false)
    (h : _root_.PySem.wpAt M A c (evalArgs (.ref u) true args []) (fun a s₁ => s₁.heap.get? u = some (bfm x) ∧ wpAny M A (call (.ref u) (first ++ a.pos) a.kw) Q E s₁) E s) :
    _root_.PySem.wpAt M A c (callWith pos (.ref u) first args []) Q E s := by
  unfold callWith
  refine wpAt_bind (ks_wpAt_holding (wpAt_mono h (fun a s₁ h₁ => wpAt_of_wpAny (wpAny_bind (wpAny_standAt ?_))) fun _ _ x => x))
  obtain ⟨ho, hcall⟩ := h₁
  simp only [hplain, List.any_nil, Bool.or_false]
  refine wpAny_bind (m := keeperOf (.ref u)) ?_
  unfold keeperOf
  refine wpAny_bind (wpAny_load ho ?_)
  simp only [bfm, show (Value.type "builtin_function_or_method" != Value.type "method") = true by decide, show (Value.type "builtin_function_or_method" == Value.type "builtin_function_or_method" || Value.type "builtin_function_or_method" == Value.type "method-wrapper") = true by decide, if_true]
  refine wpAny_pure ?_
  exact wpAny_bind (wpAny_mono hcall (fun r s₂ hr => wpAny_bind (wpAny_holding (wpAny_point (wpAny_pure hr)))) fun _ _ x => x)
end
end Mine
end
section
open PySem PySem.W PyProof.Rows PySem.Calls PySem.Spec Builtin
set_option Elab.async false
set_option maxRecDepth 100000
namespace Mine
section
variable {prog : Program} {w : World} {A : Around} {E : Value → Shared → Prop} {h : Heap} {g : Array GenState} {d : Drawn} {t : Nat} {os : OsState} {Q : Value → Shared → Prop}
set_option maxHeartbeats 4000000 in
theorem superGet {name : Str} {so x : Addr} {o : Obj} {K : Frag} (X : K.In h) (Y : FD (model prog w) h) (hx : h.get? x = some o) (hc : o.cls = .ref 72) (hx2 : x ≠ 72)
    (hso : h.get? so = some { cls := .type "super", dict := none, data := .fields #[.ref 72, .ref x, .ref 72], slots := #[] }) (hno : Looks (model prog w) h (opaqueClassAbove (.ref 72)) none)
    (hn : (name == ("__class__" : Str)) = false) (hf : alongIn K name [.type "collections.defaultdict", .type "dict", .type "object"] = some (some (.builtin "collections.defaultdict.__missing__")))
    (hq : Q (.ref h.objs.size) ⟨h.push (bfm x), g, d, t + 1, os⟩) :
    wpAny (model prog w) A (getAttr (.ref so) name true) Q E ⟨h, g, d, t, os⟩ := by
  have hlk := F.ks_slot_super_ga.lookup
  have hT : ∀ t', (⟨h, g, d, t', os⟩ : Shared).TypeIs (.ref so) "super" := fun _ => ⟨_, hso, rfl⟩
  have hC : Looks (model prog w) h (mroOf (.ref 72)) mro72 := Y.mro
  have hl : (mro72.dropWhile (· != .ref 72)).drop 1 = [.type "collections.defaultdict", .type "dict", .type "object"] := by decide
  have ga : ∀ (A : Around) (t : Nat) (tk : Tok) (Q : Fin → Shared → Prop) (E : Value → Shared → Prop), Q (.done (.ret (.ref h.objs.size))) ⟨h.push (bfm x), g, d, t, os⟩ → wpAny (model prog w) A (Builtin.«super.__getattribute__» ⟨[.ref so, .str name tk], []⟩) Q E ⟨h, g, d, t, os⟩ := by
    intro A t tk Q E hq
    have hne : (Value.ref x == Value.ref 72) = false := by simp [hx2]
    have hdt : ({ cls := .type "super", dict := none, data := .fields #[.ref 72, .ref x, .ref 72], slots := #[] } : Obj).data = .fields #[.ref 72, .ref x, .ref 72] := rfl
    have f0 : (#[.ref 72, .ref x, .ref 72] : Array Value)[0]? = some (.ref 72) := rfl
    have f1 : (#[.ref 72, .ref x, .ref 72] : Array Value)[1]? = some (.ref x) := rfl
    have f2 : (#[.ref 72, .ref x, .ref 72] : Array Value)[2]? = some (.ref 72) := rfl
    have hm := miss_type
    have hlk := slot_mdget.lookup
    unfold Builtin.«super.__getattribute__»
    repeat (first
      | (with_reducible refine wpAny_field hso hdt f0 ?_) | (with_reducible refine wpAny_field hso hdt f1 ?_) | (with_reducible refine wpAny_field hso hdt f2 ?_)
      | (with_reducible refine ks_wpAny_notOpaque hno ?_)
      | (with_reducible refine Looks.at hC ?_; rw [hl])
      | (refine ks_forIn_along X (fun _ _ => rfl) rfl ?_ hf)
      | (with_reducible refine wpAny_of_eq hm ?_)
      | (with_reducible refine mdget_call Y hx hc ?_)
      | (simp only [hn, hne, Bool.or_false, Bool.false_eq_true, if_false])
      | wp_step
      | dsimp only)
    all_goals exact hq
  unfold getAttr getAttrBy
  refine wpAny_bind (wpAny_mkText (wpAny_holding (wpAny_bind (wpAny_typeOf (hT _) (wpAny_bind (wpAny_of_eq hlk ?_))))))
  show wpAny _ _ (getAttrByItsOwn (.ref so) (.str name t) (.type "super") (.builtin "super.__getattribute__") true true) _ _ _
  unfold getAttrByItsOwn hookBefore callGetattribute boundAndCalled
  refine wpAny_bind (wpAny_of_eq (show (if onTheHeap (.type "super") then typeLookup (.type "super") "__getattr__" else pure none) = pure none from rfl) ?_)
  refine wpAny_bind (wpAny_attempt (wpAny_holding ?_))
  show wpAny _ _ (bindSpecial (.builtin "super.__getattribute__") (.ref so) >>= _) _ _ _
  refine wpAny_bind (wpAny_of_eq (F.ks_slot_super_ga.bind _) ?_)
  refine wpAny_mono (Q := fun v s' => v = .ref h.objs.size ∧ s' = ⟨h.push (bfm x), g, d, t + 1, os⟩) (E := fun _ _ => False)
    (wpAny_call_entry F.ks_slot_super_ga (hT _) F.ks_entry_super_ga (ga _ _ _ _ _ ⟨_, rfl, rfl, rfl⟩) (F.ks_gaArgs_super _ _)) (fun v s' hv => ?_) fun _ _ z => z.elim
  obtain ⟨rfl, rfl⟩ := hv
  exact wpAny_pure hq
end
end Mine
end
section
open PySem PySem.W PyProof.Rows PySem.Calls PySem.Spec Builtin
set_option Elab.async false
set_option maxRecDepth 100000
namespace Mine
noncomputable abbrev SK (w : World) : KeyKind PySem.Challenge.rw_in0194_01.row.prog w Str := PySem.strKind PySem.Challenge.rw_in0194_01.row.prog w
structure DOf (w : World) (es : Array DictEntry) (kvs : List (Str × Value)) : Prop where
  keys : KeysOf (SK w) es
  pairs : Pairs (SK w) es.toList kvs
  nodup : (kvs.map (·.1)).Nodup
theorem DOf.nil (w : World) : DOf w #[] [] := ⟨fun _ he => by simp at he, Pairs.nil, List.nodup_nil⟩

theorem is_str (w : World) (k : Str) (t : Tok) : (SK w).is k (.str k t) = true := by
  show Value.isStrOf k (.str k t) = true
  unfold Value.isStrOf
  simp
section
variable {w : World} {A : Around} {E : Value → Shared → Prop} {s : Shared} {d : Addr} {o : Obj} {es : Array DictEntry} {ep : Nat} {kvs : List (Str × Value)} {k : Str} {t : Tok}

theorem DOf.size (D : DOf w es kvs) : es.size = kvs.length := by have e1 := D.pairs.length; rw [← e1]; simp
theorem DOf.idx (D : DOf w es kvs) (k : Str) : (es.findIdx? fun e => (SK w).is k e.key) = kvs.findIdx? fun kv => decide (kv.1 = k) := by
  rw [← D.pairs.findIdx k]; obtain ⟨l⟩ := es; simp

theorem DOf.hit (D : DOf w es kvs) {i : Nat} (hi : (es.findIdx? fun e => (SK w).is k e.key) = some i) : ∃ e, es[i]? = some e ∧ valueAt kvs k = some e.val := by
  have hl : (es.toList.findIdx? fun e => (SK w).is k e.key) = some i := by rw [← hi]; obtain ⟨l⟩ := es; simp
  obtain ⟨e, h1, _, h3⟩ := D.pairs.at hl
  exact ⟨e, by simpa using h1, h3⟩
theorem DOf.miss (D : DOf w es kvs) (hi : (es.findIdx? fun e => (SK w).is k e.key) = none) : valueAt kvs k = none := by
  rw [← D.pairs.find k]
  have : (es.toList.find? fun e => (SK w).is k e.key) = none := by
    rw [List.find?_eq_none]
    intro e he
    have := Array.findIdx?_eq_none_iff.mp hi e (Array.mem_toList_iff.mp he)
    simpa using this
  rw [this]; rfl
theorem DOf.set (D : DOf w es kvs) {i : Nat} (hi : (es.findIdx? fun e => (SK w).is k e.key) = some i) (v : Value) : DOf w (es.modify i fun e => { e with val := v }) (stored kvs k v) := by
  have hidx := D.idx k
  refine ⟨D.keys.modify _ _, ?_, ?_⟩
  · rw [stored, if_pos (any_of_findIdx_some (hidx ▸ hi))]
    have hl : (es.toList.findIdx? fun e => (SK w).is k e.key) = some i := by rw [← hi]; obtain ⟨l⟩ := es; simp
    have := D.pairs.modify D.nodup hl v
    obtain ⟨l⟩ := es
    simpa using this
  · rw [stored, if_pos (any_of_findIdx_some (hidx ▸ hi)), keys_map_store]; exact D.nodup
theorem DOf.push (D : DOf w es kvs) (t : Tok) (hi : (es.findIdx? fun e => (SK w).is k e.key) = none) (v : Value) : DOf w (es.push ⟨hashStr w k, .str k t, v⟩) (stored kvs k v) := by
  have hidx := D.idx k
  have hnot : k ∉ kvs.map (·.1) := not_mem_of_findIdx_none (hidx ▸ hi)
  have hany : ¬ (kvs.any fun kv => decide (kv.1 = k)) = true := by
    rw [List.any_eq_true]; rintro ⟨kv, hkv, he⟩
    exact hnot (List.mem_map.mpr ⟨kv, hkv, of_decide_eq_true he⟩)
  refine ⟨D.keys.push (is_str w k t) v, ?_, ?_⟩
  · rw [stored, if_neg hany]
    have := D.pairs.append (is_str w k t) (hashStr w k) v
    obtain ⟨l⟩ := es
    simpa using this
  · rw [stored, if_neg hany, List.map_append, List.nodup_append]
    refine ⟨D.nodup, by simp, ?_⟩
    intro a ha b hb
    simp only [List.map_cons, List.map_nil, List.mem_singleton] at hb
    subst hb
    exact fun e => hnot (e ▸ ha)

theorem dGet {Q : Option Value → Shared → Prop} (ho : s.heap.get? d = some o) (hd : o.data = .dict es ep) (D : DOf w es kvs) (h : Q (valueAt kvs k) { s with toks := s.toks + 1 }) :
    wpAny (model PySem.Challenge.rw_in0194_01.row.prog w) A (dictGet d (.str k t)) Q E s := by
  unfold dictGet
  try with_reducible refine wpAny_holding ?_
  refine wpAny_bind ((SK w).pyHash (is_str w k t) (wpAny_bind (wpAny_dictFind_of (s := { s with toks := s.toks + 1 }) (is_str w k t) ho hd D.keys ?_)))
  cases hi : es.findIdx? fun e => (SK w).is k e.key with
  | none => rw [D.miss hi] at h; exact wpAny_pure h
  | some i =>
    obtain ⟨e, h1, h3⟩ := D.hit hi
    rw [h3] at h
    refine wpAny_bind (wpAny_dictEntries (s := { s with toks := s.toks + 1 }) ho hd (wpAny_pure ?_))
    rw [h1]; exact h

theorem dSet {v : Value} {Q : Unit → Shared → Prop} (ho : s.heap.get? d = some o) (hd : o.data = .dict es ep) (D : DOf w es kvs)
    (h : ∀ h' es' ep', h'.get? d = some { o with data := .dict es' ep' } → DOf w es' (stored kvs k v) → Heap.SameBut d s.heap h' → Q () { s with heap := h', toks := s.toks + 1 })
    (hsz : kvs.length ≤ sizeLine) :
    wpAny (model PySem.Challenge.rw_in0194_01.row.prog w) A (dictSet d (.str k t) v) Q E s := by
  have hes : es.size ≤ sizeLine := D.size ▸ hsz
  unfold dictSet
  try with_reducible refine wpAny_holding ?_
  refine wpAny_bind ((SK w).pyHash (is_str w k t) ?_)
  unfold dictSetHashed
  try with_reducible refine wpAny_holding ?_
  refine wpAny_bind (wpAny_dictFind_of (s := { s with toks := s.toks + 1 }) (is_str w k t) ho hd D.keys ?_)
  cases hi : es.findIdx? fun e => (SK w).is k e.key with
  | some i =>
    refine wpAny_bind (wpAny_rule (wpAny_bind (wpAny_updateDict (s := { s with toks := s.toks + 1 }) ho hd (wpAny_point (h _ _ ep ?_ (D.set hi v) (Heap.SameBut.update ..))))))
    rw [Heap.get?_update_self _ ho (Obj.isFreed_of_dict (Obj.data_mapDict hd _))]
    obtain ⟨c, dd, dt, sl⟩ := o
    cases hd; rfl
  | none =>
    refine wpAny_bind (wpAny_rule (wpAny_updateDictKeys (hz := hes) (s := { s with toks := s.toks + 1 }) ho hd (h _ _ (ep + 1) ?_ (D.push t hi v) (Heap.SameBut.update ..))))
    rw [Heap.get?_update_self _ ho (Obj.isFreed_of_dict (Obj.data_mapDictKeys hd _))]
    obtain ⟨c, dd, dt, sl⟩ := o
    cases hd; rfl

theorem dDefault {v : Value} {Q : Value → Shared → Prop} (ho : s.heap.get? d = some o) (hd : o.data = .dict es ep) (D : DOf w es kvs) (hn : valueAt kvs k = none)
    (h : ∀ h' es' ep', h'.get? d = some { o with data := .dict es' ep' } → DOf w es' (stored kvs k v) → Heap.SameBut d s.heap h' → Q v { s with heap := h', toks := s.toks + 1 })
    (hsz : kvs.length ≤ sizeLine) :
    wpAny (model PySem.Challenge.rw_in0194_01.row.prog w) A (dictSetDefault d (.str k t) v) Q E s := by
  have hes : es.size ≤ sizeLine := D.size ▸ hsz
  unfold dictSetDefault
  try with_reducible refine wpAny_holding ?_
  refine wpAny_bind ((SK w).pyHash (is_str w k t) ?_)
  refine wpAny_bind (wpAny_dictFind_of (s := { s with toks := s.toks + 1 }) (is_str w k t) ho hd D.keys ?_)
  cases hi : es.findIdx? fun e => (SK w).is k e.key with
  | some i => obtain ⟨e, _, h3⟩ := D.hit hi; rw [hn] at h3; cases h3
  | none =>
    refine wpAny_bind (wpAny_rule (wpAny_bind (wpAny_updateDictKeys (hz := hes) (s := { s with toks := s.toks + 1 }) ho hd (wpAny_pure (h _ _ (ep + 1) ?_ (D.push t hi v) (Heap.SameBut.update ..))))))
    rw [Heap.get?_update_self _ ho (Obj.isFreed_of_dict (Obj.data_mapDictKeys hd _))]
    obtain ⟨c, dd, dt, sl⟩ := o
    cases hd; rfl
end
end Mine
end
section
open PySem PySem.W PyProof.Rows PySem.Calls PySem.Spec Builtin
set_option Elab.async false
set_option maxRecDepth 100000
namespace Mine
section
variable {w : World} {A : Around} {E : Value → Shared → Prop} {h : Heap} {g : Array GenState} {d : Drawn} {t : Nat} {os : OsState} {x dx : Addr} {o : Obj} {es : Array DictEntry} {ep : Nat} {kvs : List (Str × Value)} {k : Str} {tk : Tok}

theorem gi_plain : plainId "dict.__getitem__" = true := by decide +kernel
theorem gi_kind : builtinKind "dict.__getitem__" = some .method := by decide +kernel
theorem si_plain : plainId "dict.__setitem__" = true := by decide +kernel
theorem si_kind : builtinKind "dict.__setitem__" = some .slot := by decide +kernel
theorem gi_split : splitId "dict.__getitem__" = some ("dict", "__getitem__") := by decide +kernel
theorem si_split : splitId "dict.__setitem__" = some ("dict", "__setitem__") := by decide +kernel
theorem gi_bind (self : Value) : bindSpecial (.builtin "dict.__getitem__") self = pure (.builtin "dict.__getitem__", [self]) := PySem.F.slot_dict_getitem.bind self
theorem si_bind (self : Value) : bindSpecial (.builtin "dict.__setitem__") self = pure (.builtin "dict.__setitem__", [self]) := PySem.F.slot_dict_setitem.bind self

set_option maxHeartbeats 4000000 in
theorem fdd_seq {M : Model} {h : Heap} (X : (Mine.hd.heap_1 w.params).In h) : Looks M h (seqItemTypes.anyM fun n => isSubtype (.ref 72) (.type n)) false :=
  anyM_none X (show noSeq (Mine.hd.heap_1 w.params) 72 = true by k_is)

/-- what every step on such a dict needs -/
structure FI (w : World) (h : Heap) (x : Addr) (o : Obj) : Prop where
  fd : FD (model PySem.Challenge.rw_in0194_01.row.prog w) h
  seq : Looks (model PySem.Challenge.rw_in0194_01.row.prog w) h (seqItemTypes.anyM fun n => isSubtype (.ref 72) (.type n)) false
  at_ : h.get? x = some o
  cls : o.cls = .ref 72
  lo : (x == sysModules) = false
  bm : Looks (model PySem.Challenge.rw_in0194_01.row.prog w) h (bindSpecial (.ref 62) (.ref x)) (.ref 62, [.ref x])

set_option maxHeartbeats 4000000 in
theorem fi_of (X : (Mine.hd.heap_1 w.params).In h) (hx : h.get? x = some o) (hc : o.cls = .ref 72) (lo : (x == sysModules) = false) : FI w h x o where
  fd := fd_of X
  seq := fdd_seq X
  at_ := hx
  cls := hc
  lo := lo
  bm := bind_fn X _ (beq_iff_eq.mp (show isFn (Mine.hd.heap_1 w.params) (.ref 62) = true by k_is))
end
end Mine
end
section
open PySem PySem.W PyProof.Rows PySem.Calls PySem.Spec Builtin
set_option Elab.async false
set_option maxRecDepth 100000
namespace Mine
section
variable {w : World} {A : Around} {E : Value → Shared → Prop} {h : Heap} {g : Array GenState} {d : Drawn} {t : Nat} {os : OsState} {x dx : Addr} {o : Obj} {es : Array DictEntry} {ep : Nat} {kvs : List (Str × Value)} {k : Str} {tk : Tok}
set_option maxHeartbeats 4000000 in
theorem gi_code {R : Result → Shared → Prop} (I : FI w h x o) (hd : o.data = .dict es ep) (D : DOf w es kvs)
    (hq : match valueAt kvs k with
      | some v => R (.ok (.ret v)) ⟨h, g, d, t + 1, os⟩
      | none => wpAny (model PySem.Challenge.rw_in0194_01.row.prog w) A.in1 (call (.ref 62) [.ref x, .str k tk]) (fun v s' => R (.ok (.ret v)) s') (fun e s' => R (.error e) s') ⟨h, g, d, t + 1, os⟩) :
    codeAny (model PySem.Challenge.rw_in0194_01.row.prog w) A (.call (.builtin "dict.__getitem__") ⟨[.ref x, .str k tk], []⟩) R ⟨h, g, d, t, os⟩ := by
  obtain ⟨Y, sq, hx, hc, lo, bm⟩ := I
  have ty := Y.ty hx hc
  obtain ⟨-, typ, call, dct, dfd, own, nod, mro, init, gi, si, mi, it⟩ := Y
  have inst : Looks (model PySem.Challenge.rw_in0194_01.row.prog w) h (isInstance (.ref x) (.type "dict")) true := ty.andThen dct
  have sp : Looks (model PySem.Challenge.rw_in0194_01.row.prog w) h (specialOf (.ref x) "__missing__") (some (.ref 62)) := ty.andThen mi
  refine codeAny_call_builtin gi_plain PySem.F.entry_dict_getitem (kfo_check (M := model PySem.Challenge.rw_in0194_01.row.prog w) (i := "dict.__getitem__") (owner := "dict") (n := "__getitem__") (self := .ref x) (rest := [.str k tk]) (kw := []) gi_kind gi_split inst (PySem.F.args_dict_getitem_2 _ _) ?_)
  unfold Builtin.«dict.__getitem__»
  refine wpAny_bind (m := Builtin.Dict.keyArg _ _) ?_
  unfold Builtin.Dict.keyArg
  repeat ((fail_if_success (with_reducible refine wpAny_bind (m := dictGet _ _) ?_)); lk)
  refine wpAny_bind (dGet (s := ⟨h, g, d, t, os⟩) hx hd D ?_)
  revert hq
  cases hv : valueAt kvs k with
  | some v =>
    intro hq
    repeat lk
    exact hq
  | none =>
    intro hq
    refine wpAny_bind (wpAny_missed_other lo ?_)
    refine wpAny_bind (ty.here ?_)
    rw [if_pos (by rfl)]
    unfold callSpecial?
    refine wpAny_bind (wpAny_bind (sp.here ?_))
    refine wpAny_holding (wpAny_bind (bm.here ?_))
    dsimp only
    refine wpAny_bind (wpAny_mono hq (fun v s' hv => ?_) fun _ _ z => z)
    refine wpAny_pure ?_
    exact wpAny_bind (wpAny_rule (wpAny_pure hv))

set_option maxHeartbeats 4000000 in
/-- d[k]: what stands there, or what __missing__ (62) answers -/
theorem fdd_getItem {Q : Value → Shared → Prop} (I : FI w h x o) (hd : o.data = .dict es ep) (D : DOf w es kvs)
    (hq : match valueAt kvs k with
      | some v => Q v ⟨h, g, d, t + 1, os⟩
      | none => wpAny (model PySem.Challenge.rw_in0194_01.row.prog w) A.in1 (call (.ref 62) [.ref x, .str k tk]) Q E ⟨h, g, d, t + 1, os⟩) :
    wpAny (model PySem.Challenge.rw_in0194_01.row.prog w) A (getItem (.ref x) (.str k tk)) Q E ⟨h, g, d, t, os⟩ := by
  have ty := I.fd.ty I.at_ I.cls
  have sp : Looks (model PySem.Challenge.rw_in0194_01.row.prog w) h (specialOf (.ref x) "__getitem__") (some (.builtin "dict.__getitem__")) := ty.andThen I.fd.getitem
  unfold getItem sequenceKey
  refine wpAny_holding (wpAny_bind (wpAny_bind (ty.here ?_)))
  refine wpAny_bind (I.seq.here ?_)
  rw [if_pos (show (!false) = true from rfl)]
  refine wpAny_pure (wpAny_bind ?_)
  unfold callSpecial?
  refine wpAny_bind (sp.here ?_)
  refine wpAny_holding ?_
  rw [gi_bind]
  refine wpAny_bind (wpAny_pure ?_)
  refine wpAny_bind (wpAny_call ?_)
  refine gi_code I hd D ?_
  revert hq
  cases hv : valueAt kvs k with
  | some v => intro hq; exact wpAny_pure (wpAny_pure hq)
  | none => intro hq; exact wpAny_mono hq (fun v s' hv => wpAny_pure (wpAny_pure hv)) fun _ _ z => z

set_option maxHeartbeats 4000000 in
theorem si_code {R : Result → Shared → Prop} {v : Value} (I : FI w h x o) (hd : o.data = .dict es ep) (D : DOf w es kvs) (hsz : kvs.length ≤ sizeLine)
    (hq : ∀ h' es' ep', h'.get? x = some { o with data := .dict es' ep' } → DOf w es' (stored kvs k v) → Heap.SameBut x h h' → R (.ok (.ret .none)) ⟨h', g, d, t + 1, os⟩) :
    codeAny (model PySem.Challenge.rw_in0194_01.row.prog w) A (.call (.builtin "dict.__setitem__") ⟨[.ref x, .str k tk, v], []⟩) R ⟨h, g, d, t, os⟩ := by
  obtain ⟨Y, sq, hx, hc, lo, bm⟩ := I
  have ty := Y.ty hx hc
  obtain ⟨-, typ, call, dct, dfd, own, nod, mro, init, gi, si, mi, it⟩ := Y
  have inst : Looks (model PySem.Challenge.rw_in0194_01.row.prog w) h (isInstance (.ref x) (.type "dict")) true := ty.andThen dct
  have ino : Looks (model PySem.Challenge.rw_in0194_01.row.prog w) h (isInstance (.ref x) (.type "collections.OrderedDict")) false := ty.andThen nod
  refine codeAny_call_builtin si_plain PySem.F.entry_dict_setitem (@check_slot (model PySem.Challenge.rw_in0194_01.row.prog w) _ _ _ "dict.__setitem__" "dict" "__setitem__" (.ref x) [.str k tk, v] [] _ si_kind si_split inst (PySem.F.args_dict_setitem_3 _ _ _) ?_)
  obtain ⟨c, od, dt, sl⟩ := o
  cases hc
  cases hd
  unfold Builtin.«dict.__setitem__»
  repeat ((fail_if_success (with_reducible refine wpAny_bind (m := dictSet _ _ _) ?_)); lk)
  refine wpAny_bind (dSet (s := ⟨h, g, d, t, os⟩) hx rfl D ?_ hsz)
  intro h' es' ep' h1 h2 h3
  exact wpAny_pure (hq h' es' ep' h1 h2 h3)

set_option maxHeartbeats 4000000 in
theorem fdd_setItem {Q : Unit → Shared → Prop} {v : Value} (I : FI w h x o) (hd : o.data = .dict es ep) (D : DOf w es kvs) (hsz : kvs.length ≤ sizeLine)
    (hq : ∀ h' es' ep', h'.get? x = some { o with data := .dict es' ep' } → DOf w es' (stored kvs k v) → Heap.SameBut x h h' → Q () ⟨h', g, d, t + 1, os⟩) :
    wpAny (model PySem.Challenge.rw_in0194_01.row.prog w) A (setItem (.ref x) (.str k tk) v) Q E ⟨h, g, d, t, os⟩ := by
  have ty := I.fd.ty I.at_ I.cls
  have sp : Looks (model PySem.Challenge.rw_in0194_01.row.prog w) h (specialOf (.ref x) "__setitem__") (some (.builtin "dict.__setitem__")) := ty.andThen I.fd.setitem
  unfold setItem sequenceKey
  refine wpAny_holding (wpAny_bind (wpAny_bind (ty.here ?_)))
  refine wpAny_bind (I.seq.here ?_)
  rw [if_pos (show (!false) = true from rfl)]
  refine wpAny_pure (wpAny_bind ?_)
  unfold callSpecial?
  refine wpAny_bind (sp.here ?_)
  refine wpAny_holding ?_
  rw [si_bind]
  refine wpAny_bind (wpAny_pure ?_)
  refine wpAny_bind (wpAny_call ?_)
  refine si_code I hd D hsz ?_
  intro h' es' ep' h1 h2 h3
  exact wpAny_pure (wpAny_pure (hq h' es' ep' h1 h2 h3))
end
end Mine
end
section
open PySem PySem.W PyProof.Rows PySem.Calls PySem.Spec Builtin
set_option Elab.async false
set_option maxRecDepth 100000
namespace Mine
theorem typeCall_int_0 : checkTypeCall "int" ⟨[], []⟩ = pure () := by kernel_rfl
theorem newCall_int_0 : checkBuiltinCall "int.__new__" ⟨[.type "int"], []⟩ = pure () := by kernel_rfl
theorem typeCall_list_0 : checkTypeCall "list" ⟨[], []⟩ = pure () := by kernel_rfl
theorem newCall_list_0 : checkBuiltinCall "list.__new__" ⟨[.type "list"], []⟩ = pure () := by kernel_rfl
theorem initArgs_0 (obj : Value) : argsOk "object.__init__" ⟨[obj], []⟩ := by unfold argsOk; kernel_rfl
theorem listInitArgs_0 (obj : Value) : argsOk "list.__init__" ⟨[obj], []⟩ := by unfold argsOk; kernel_rfl
section
variable {prog : Program} {w : World} {A : Around} {E : Value → Shared → Prop} {s : Shared}
theorem wpAny_callBorrowed {M : Model} {f : Value} {pos : List Value} {Q : Value → Shared → Prop} (h : wpAny M A (call f pos) Q E s) : wpAny M A (callBorrowed f pos) Q E s := by
  intro Γ p hΓ
  have := h Γ p hΓ
  unfold call at this
  rw [Sem.wp_runValue] at this
  unfold callBorrowed
  refine wpCode_mono (fun r s' hr => ?_) this
  cases r with
  | error e => exact hr
  | ok f => cases f with
    | ret v => exact hr
    | _ => exact hr.elim

theorem call_int0 {Q : Value → Shared → Prop} (h : Q (.int 0 s.toks) { s with toks := s.toks + 1 }) : wpAny (model prog w) A (call (.type "int") []) Q E s := by
  refine callType_new (S := fun A R s => R (.ok (.ret (.int 0 s.toks))) { s with toks := s.toks + 1 }) F.called_int F.newNe_int typeCall_int_0 newCall_int_0 initArgs_0 F.entry_int_new (Meets.of_wp fun prog w A R s hs => ?_) ?_
  · obtain ⟨hp, g, d, tk, os⟩ := s
    have f1 := F.conv_sub_int
    have f2 := F.madeHere_int
    unfold Builtin.«int.__new__»
    repeat (any_goals (first | assumption | wp_step))
    exact ⟨_, rfl, hs⟩
  · exact ⟨rfl, h⟩

theorem code_list_new0 {Q₁ : Value → Shared → Prop}
    (h : Q₁ (.ref s.heap.objs.size) { s with heap := s.heap.push { cls := .type "list", data := .seq #[] } }) :
    codeAny (model prog w) A (.call (.builtin "list.__new__") ⟨[.type "list"], []⟩) (wants Q₁ E) s := by
  refine codeAny_of_tree ?_
  show wpAny _ A.in1 (do checkBuiltinCall "list.__new__" ⟨[.type "list"], []⟩; again (.builtin "list.__new__" ⟨[.type "list"], []⟩)) _ _ s
  refine wpAny_bind (wpAny_of_eq newCall_list_0 (wpAny_pure ⟨plainId_quiet F.plain_list_new _, codeAny_builtin_stack F.entry_list_new rfl fun p st => ?_⟩))
  rw [Around.under_plainId F.plain_list_new _]
  have hsub := sub_list_self
  have hown := owner_list_new
  obtain ⟨hp, g, d, tk, os⟩ := s
  simp only [hown]
  wp_walk
  exact h

theorem call_list0 {Q : Value → Shared → Prop} (h : ∀ h' c', Heap.SameBut s.heap.objs.size (s.heap.push { cls := .type "list", data := .seq #[] }) h' → h'.get? s.heap.objs.size = some { cls := .type "list", data := .seq #[] c' } → Q (.ref s.heap.objs.size) { s with heap := h' }) : wpAny (model prog w) A (call (.type "list") []) Q E s := by
  refine callType_codes (Q₁ := fun obj s₁ => obj = .ref s.heap.objs.size ∧ s₁ = { s with heap := s.heap.push { cls := .type "list", data := .seq #[] } }) F.called_list typeCall_list_0 F.entry_list_init (code_list_new0 ⟨rfl, rfl⟩) ?_
  rintro obj s₁ ⟨rfl, rfl⟩
  have hS : (s.heap.push { cls := .type "list", data := .seq #[] }).get? s.heap.objs.size = some { cls := .type "list", data := .seq #[] } := by heap_get
  refine ⟨⟨_, hS, rfl⟩, listInitArgs_0 _, ?_⟩
  show wpAny _ A.in1.in1 (do let old ← Builtin.List.listItems (.ref s.heap.objs.size); Builtin.List.listUpdate (.ref s.heap.objs.size) (fun _ => #[]); letGo old.toList.reverse; ret .none) _ _ _
  refine wpAny_bind ?_
  unfold Builtin.List.listItems
  refine wpAny_bind (wpAny_seqItems hS rfl (wpAny_pure ?_))
  show wpAny _ A.in1.in1 (updateSeq s.heap.objs.size (fun _ => #[]) >>= fun _ => letGo (#[] : Array Value).toList.reverse >>= fun _ => ret .none) _ _ _
  refine wpAny_bind (wpAny_updateSeq hS rfl ?_)
  have hS₂ := Heap.get?_update_self (Obj.mapSeq (fun _ => (#[] : Array Value))) hS rfl
  refine wpAny_bind (wpAny_letGo ?_)
  exact wpAny_pure ⟨rfl, h _ _ (Heap.SameBut.update ..) hS₂⟩
end
end Mine
end
section
open PySem PySem.W PyProof.Rows PySem.Calls PySem.Spec Builtin
set_option Elab.async false
set_option maxRecDepth 100000
namespace Mine
theorem miss_entry : entryFor table "collections.defaultdict.__missing__" = some Builtin.«collections.defaultdict.__missing__» := entryFor_of_tree (by kernel_rfl)
theorem miss_kind : builtinKind "collections.defaultdict.__missing__" = some .method := by decide +kernel
theorem miss_quiet : ("collections.defaultdict.__missing__").startsWith "lifetime." = false := by decide +kernel
theorem miss_var : Manifest.varargsMethods.contains "collections.defaultdict.__missing__" = false := by decide +kernel
theorem miss_plain : plainId "collections.defaultdict.__missing__" = true := by decide +kernel
structure FQ (w : World) (h : Heap) : Prop where
  q : ∃ oc od cd sl, h.get? 72 = some ⟨oc, od, .cls cd, sl⟩ ∧ cd.qualname.toString = "FreezableDefaultDict" ∧ oc = .type "type"
  nom : Looks (model PySem.Challenge.rw_in0194_01.row.prog w) h (isSubtype (.ref 72) (.type "module")) false
set_option maxHeartbeats 4000000 in
theorem fq_of {w : World} {h : Heap} (X : (Mine.hd.heap_1 w.params).In h) : FQ w h where
  q := by
    refine ⟨_, _, _, _, X 72 _ (by k_is), ?_, rfl⟩
    decide +kernel
  nom := looks_mroIn X (by k_is)
theorem sd_quiet : ("dict.setdefault").startsWith "lifetime." = false := by decide +kernel
theorem sd_plain : plainId "dict.setdefault" = true := by decide +kernel
theorem miss_sig : ∃ sig, Manifest.signature? "collections.defaultdict.__missing__" = some sig ∧ ∀ (a b : Value), Bind.checkArgs "collections.defaultdict.__missing__" { sig with full := "FreezableDefaultDict.__missing__" } ⟨[a, b], []⟩ = pure () := by
  refine ⟨(Manifest.signature? "collections.defaultdict.__missing__").get (by decide +kernel), by simp, fun a b => ?_⟩
  kernel_rfl
section
variable {w : World} {A : Around} {E : Value → Shared → Prop} {h : Heap} {g : Array GenState} {d : Drawn} {t : Nat} {os : OsState} {x dx b : Addr} {o : Obj} {es : Array DictEntry} {ep : Nat} {kvs : List (Str × Value)} {k : Str} {tk : Tok}
set_option maxHeartbeats 4000000 in
theorem miss_call {Q : Value → Shared → Prop} {fac : Value} (I : FI w h x (fdd fac dx es ep)) (FQ : FQ w h) (hb : h.get? b = some (bfm x)) (hn : fac = .type "int" ∨ fac = .type "list") 
    (hq : wpAny (model PySem.Challenge.rw_in0194_01.row.prog w) A.in1 (call fac []) (fun v s' => (∃ o, FI w s'.heap x o) ∧ wpAny (model PySem.Challenge.rw_in0194_01.row.prog w) A.in1 (dictSetDefault x (.str k tk) v) Q E s') E ⟨h, g, d, t, os⟩) :
    wpAny (model PySem.Challenge.rw_in0194_01.row.prog w) A (call (.ref b) [.str k tk]) Q E ⟨h, g, d, t, os⟩ := by
  obtain ⟨Y, sq, hx, hc, lo, bm⟩ := I
  have ty := Y.ty hx hc
  obtain ⟨⟨oc, od, cd, sl, hC, hqn, rfl⟩, nom⟩ := FQ
  obtain ⟨-, typ, call, dct, dfd, own, nod, mro, init, gi, si, mi, it⟩ := Y
  obtain ⟨sig, hs1, hs2⟩ := miss_sig
  have hfull : toString cd.qualname.toString ++ toString "." ++ toString (Bind.lastOf "collections.defaultdict.__missing__") = "FreezableDefaultDict.__missing__" := by rw [hqn]; decide +kernel
  have inm : Looks (model PySem.Challenge.rw_in0194_01.row.prog w) h (isInstance (.ref x) (.type "module")) false := ty.andThen nom
  refine wpAny_call (codeAny_of_tree ?_)
  show wpAny _ _ (callAny (.ref b) _) _ _ _
  unfold callAny
  refine nd_load hb ?_
  show wpAny _ _ (checkBoundCall "collections.defaultdict.__missing__" ⟨[.ref x, .str k tk], []⟩ >>= fun _ => again (.builtin "collections.defaultdict.__missing__" ⟨[.ref x, .str k tk], []⟩)) _ _ _
  refine wpAny_bind ?_
  unfold checkBoundCall
  rw [hs1]
  dsimp only
  rw [miss_kind]
  dsimp only
  rw [if_neg (by decide)]
  refine wpAny_bind (inm.here ?_)
  rw [if_neg (by rw [miss_var]; decide)]
  refine wpAny_bind (m := isType _) ?_
  refine nd_load hx ?_
  refine wpAny_pure ?_
  rw [if_neg (show ¬ (false = true) by decide)]
  refine wpAny_bind (ty.here ?_)
  refine wpAny_bind (m := classData 72) ?_
  refine nd_load hC ?_
  refine wpAny_pure ?_
  refine wpAny_bind (m := typeOf (.ref 72)) ?_
  refine nd_load hC ?_
  refine wpAny_pure ?_
  rw [if_pos (show ((Value.type "type" == Value.type "type") = true) by decide), hfull, hs2]
  refine wpAny_pure ?_
  refine wpAny_pure ⟨Code.quiet_builtin _ miss_quiet, codeAny_builtin miss_entry ?_⟩
  unfold Builtin.«collections.defaultdict.__missing__»
  rw [Around.under_plainId miss_plain]
  refine wpAny_bind (wpAny_pure ?_)
  dsimp only
  refine wpAny_bind (m := Builtin.Collections_defaultdict.factory? _) ?_
  unfold Builtin.Collections_defaultdict.factory?
  repeat lk
  have hfl : (Option.join (#[some fac] : Array (Option Value))[0]?).filter (fun x => x != Value.none) = some fac := by
    rcases hn with rfl | rfl <;> rfl
  rw [hfl]
  dsimp only
  refine wpAny_bind (m := callOutOfASlot fac) ?_
  unfold callOutOfASlot
  have hbor : borrowsExactly fac = pure true := by rcases hn with rfl | rfl <;> rfl
  rw [hbor]
  refine wpAny_bind (wpAny_pure ?_)
  rw [if_pos (show true = true from rfl)]
  refine wpAny_callBorrowed (wpAny_mono hq (fun v s' hv => ?_) fun _ _ z => z)
  obtain ⟨⟨o, I'⟩, hv⟩ := hv
  refine wpAny_pure ⟨Code.quiet_builtin _ sd_quiet, codeAny_builtin F.entry_dict_setdefault ?_⟩
  rw [Around.under_plainId sd_plain]
  unfold Builtin.«dict.setdefault»
  refine wpAny_bind ?_
  unfold Builtin.Dict.keyAndDefault
  refine wpAny_bind (m := Builtin.Dict.notOrdered _ _) ?_
  have ty' := I'.fd.ty I'.at_ I'.cls
  have ino : Looks (model PySem.Challenge.rw_in0194_01.row.prog w) s'.heap (isInstance (.ref x) (.type "collections.OrderedDict")) false := ty'.andThen I'.fd.nod
  unfold Builtin.Dict.notOrdered
  rw [if_pos (by decide +kernel)]
  refine wpAny_bind (ty'.here ?_)
  rw [if_pos (show ((Value.ref 72 != Value.type "dict") = true) by decide)]
  refine wpAny_bind (ino.here ?_)
  rw [if_neg (by decide)]
  refine wpAny_pure ?_
  show wpAny _ _ (pure (x, Value.str k tk, some v)) _ _ s'
  refine wpAny_pure ?_
  show wpAny _ _ (if (x == sysModules) = true then _ else (dictSetDefault x (.str k tk) v >>= _)) _ _ s'
  rw [if_neg (by rw [lo]; exact Bool.false_ne_true)]
  exact wpAny_bind (wpAny_mono hv (fun v s'' hv => wpAny_pure hv) fun _ _ z => z)
end
end Mine
end
section
open PySem PySem.W PyProof.Rows PySem.Calls PySem.Spec Builtin Builtin.ObjectAttr
set_option Elab.async false
set_option maxRecDepth 100000
namespace Mine
theorem findObj_missing {K : Frag} {C : Addr} {od : Obj} {name : Str} (hh : hasDictIn K C = true) (ha : findIn K (.ref C) name = some none) (hl : lookIn name od = some none) (hc : copiedNames.contains name = false) :
    findObj K C (some od) name = some .missing := by
  obtain ⟨cd, hc', hd⟩ := any_some hh
  unfold findObj
  have ho : PySem.W.ownOf cd (some od) name = some none := by unfold PySem.W.ownOf; rw [if_pos hd]; exact hl
  rw [hc', Option.bind_some, ha, Option.bind_some]
  simp only [Option.bind_some, ho, hc, Bool.false_and, Bool.false_eq_true, if_false]
structure GA (w : World) (h : Heap) : Prop where
  ga : Looks (model PySem.Challenge.rw_in0194_01.row.prog w) h (typeLookup (.ref 72) "__getattribute__") (some (.builtin "collections.defaultdict.__getattribute__"))
  hook : Looks (model PySem.Challenge.rw_in0194_01.row.prog w) h (typeLookup (.ref 72) "__getattr__") none
  nom : Looks (model PySem.Challenge.rw_in0194_01.row.prog w) h (isSubtype (.ref 72) (.type "module")) false
  q : ∃ oc od cd sl, h.get? 72 = some ⟨oc, od, .cls cd, sl⟩ ∧ cd.name = "FreezableDefaultDict" ∧ oc = .type "type"
set_option maxHeartbeats 4000000 in
theorem ga_of {w : World} {h : Heap} (X : (Mine.hd.heap_1 w.params).In h) : GA w h := ⟨looks_findIn X (by k_is), looks_findIn X (by k_is), looks_mroIn X (by k_is), by
    refine ⟨_, _, _, _, X 72 _ (by k_is), ?_, rfl⟩
    decide +kernel⟩

theorem args_getattr_3 (a b c : Value) : argsOk "getattr" ⟨[a, b, c], []⟩ := by unfold argsOk; kernel_rfl
set_option maxHeartbeats 4000000 in
theorem find_missing {w : World} {M : Model} {h : Heap} {x : Addr} {ox : Obj} (X : (Mine.hd.heap_1 w.params).In h) (I : InstAt h x ox 72 (some emptyDict)) : Looks M h (find (.ref x) (.ref 72) "_frozen") .missing :=
  looks_find X I (findObj_missing (by k_is) (by k_is) (by rfl) (by decide +kernel))

theorem dga_kind : builtinKind "collections.defaultdict.__getattribute__" = some .slot := by decide +kernel
theorem dga_split : splitId "collections.defaultdict.__getattribute__" = some ("collections.defaultdict", "__getattribute__") := by decide +kernel
theorem dga_plain : plainId "collections.defaultdict.__getattribute__" = true := by decide +kernel
theorem dga_args (a b : Value) : argsOk "collections.defaultdict.__getattribute__" ⟨[a, b], []⟩ := by unfold argsOk; kernel_rfl
theorem dga_entry : entryFor table "collections.defaultdict.__getattribute__" = some Builtin.«object.__getattribute__» :=
  entryFor_alias (id' := "object.__getattribute__") (by kernel_rfl) (by decide +kernel) (by decide +kernel) (by kernel_rfl)
theorem dga_bind (self : Value) : bindSpecial (.builtin "collections.defaultdict.__getattribute__") self = pure (.builtin "collections.defaultdict.__getattribute__", [self]) :=
  (Slot.of (T := "collections.defaultdict") (name := "__getattribute__") (owner := "collections.defaultdict") (n := "__getattribute__") (by rw [typeLookup_type, builtinLookup_eq_fast]; kernel_rfl) (by decide +kernel) (by decide +kernel) (by decide +kernel)
    (by first | exact .inl (by decide +kernel) | exact .inr (by decide +kernel)) (by rw [isSubtype_type]; kernel_rfl)).bind self
section
variable {w : World} {A : Around} {E : Value → Shared → Prop} {h : Heap} {g : Array GenState} {d : Drawn} {t : Nat} {os : OsState} {x dx b : Addr} {o : Obj} {es : Array DictEntry} {ep : Nat} {kvs : List (Str × Value)} {name : Str} {tk : Tok}
set_option maxHeartbeats 4000000 in
theorem dga_missing {Q : Value → Shared → Prop} (Y : FD (model PySem.Challenge.rw_in0194_01.row.prog w) h) (hx : h.get? x = some o) (hc : o.cls = .ref 72) (G : GA w h) (hf : Looks (model PySem.Challenge.rw_in0194_01.row.prog w) h (find (.ref x) (.ref 72) name) .missing)
    (hl : name.length ≤ 100) (hA : A.handled = none)
    (hq : ∀ h' tk' e, Heap.NewAttrErr h h' e (.ref x) name → E (.ref e) ⟨h', g, d, tk', os⟩) :
    wpAny (model PySem.Challenge.rw_in0194_01.row.prog w) A (call (.builtin "collections.defaultdict.__getattribute__") [.ref x, .str name tk]) Q E ⟨h, g, d, t, os⟩ := by
  have ty := Y.ty hx hc
  obtain ⟨-, -, -, -, dfd, -, -, -, -, -, -, -, -⟩ := Y
  obtain ⟨-, -, -, oc, od, cd, sl, hC, hqn, rfl⟩ := G
  refine wpAny_call (codeAny_call_builtin dga_plain dga_entry (@check_slot (model PySem.Challenge.rw_in0194_01.row.prog w) _ _ _ "collections.defaultdict.__getattribute__" "collections.defaultdict" "__getattribute__" (.ref x) [.str name tk] [] _ dga_kind dga_split (ty.andThen dfd) (dga_args _ _) ?_))
  unfold Builtin.«object.__getattribute__»
  repeat ((fail_if_success (with_reducible show wpAny _ _ (noSuchAttribute _ _) _ _ _)); lk)
  unfold noSuchAttribute
  refine wpAny_bind (m := typeNameOfCut 100 (.ref x)) ?_
  unfold typeNameOfCut shownTypeOf
  have hfit : (cd.name.cps.foldl (fun k c => k + (Str.utf8Of c).length) 0) ≤ 100 := by rw [hqn]; decide +kernel
  have hstr : cd.name.toString = "FreezableDefaultDict" := by rw [hqn]; decide +kernel
  refine wpAny_bind (wpAny_bind (ty.here ?_))
  rw [if_neg (show ¬ ((Value.ref 72 == Value.type "builtin_function_or_method") = true) by decide)]
  refine wpAny_pure ?_
  unfold typeNameCut
  refine wpAny_bind (m := classData 72) ?_
  refine nd_load hC ?_
  refine wpAny_pure ?_
  rw [if_pos hfit, hstr]
  refine wpAny_pure ?_
  refine wpAny_raiseAttrError hA (fun h' tk' e he => hq h' tk' e he) ?_
  refine attrMsg_fits (pre := toString "'" ++ toString "FreezableDefaultDict" ++ toString "' object has no attribute '") (by decide) ?_
  rw [sizeLine_eq]; omega
end
end Mine
end
section
open PySem PySem.W PyProof.Rows PySem.Calls PySem.Spec Builtin Builtin.ObjectAttr
set_option Elab.async false
set_option maxRecDepth 100000
namespace Mine
section
variable {w : World} {A : Around} {E : Value → Shared → Prop} {h : Heap} {g : Array GenState} {d : Drawn} {t : Nat} {os : OsState} {x dx b : Addr} {o : Obj} {es : Array DictEntry} {ep : Nat} {kvs : List (Str × Value)} {name : Str} {tk : Tok}
set_option maxHeartbeats 4000000 in
theorem dga_value {Q : Value → Shared → Prop} {v : Value} (Y : FD (model PySem.Challenge.rw_in0194_01.row.prog w) h) (hx : h.get? x = some o) (hc : o.cls = .ref 72) (hf : Looks (model PySem.Challenge.rw_in0194_01.row.prog w) h (find (.ref x) (.ref 72) name) (.value v))
    (hq : Q v ⟨h, g, d, t, os⟩) :
    wpAny (model PySem.Challenge.rw_in0194_01.row.prog w) A (call (.builtin "collections.defaultdict.__getattribute__") [.ref x, .str name tk]) Q E ⟨h, g, d, t, os⟩ := by
  have ty := Y.ty hx hc
  obtain ⟨-, -, -, -, dfd, -, -, -, -, -, -, -, -⟩ := Y
  refine wpAny_call (codeAny_call_builtin dga_plain dga_entry (@check_slot (model PySem.Challenge.rw_in0194_01.row.prog w) _ _ _ "collections.defaultdict.__getattribute__" "collections.defaultdict" "__getattribute__" (.ref x) [.str name tk] [] _ dga_kind dga_split (ty.andThen dfd) (dga_args _ _) ?_))
  unfold Builtin.«object.__getattribute__»
  repeat lk
  exact hq

set_option maxHeartbeats 4000000 in
theorem dga_desc {Q : Value → Shared → Prop} {gv a : Value} (Y : FD (model PySem.Challenge.rw_in0194_01.row.prog w) h) (hx : h.get? x = some o) (hc : o.cls = .ref 72) (hf : Looks (model PySem.Challenge.rw_in0194_01.row.prog w) h (find (.ref x) (.ref 72) name) (.bind gv a))
    (hq : wpAny (model PySem.Challenge.rw_in0194_01.row.prog w) A.in1 (call gv [a, .ref x, .ref 72]) Q E ⟨h, g, d, t, os⟩) :
    wpAny (model PySem.Challenge.rw_in0194_01.row.prog w) A (call (.builtin "collections.defaultdict.__getattribute__") [.ref x, .str name tk]) Q E ⟨h, g, d, t, os⟩ := by
  have ty := Y.ty hx hc
  obtain ⟨-, -, -, -, dfd, -, -, -, -, -, -, -, -⟩ := Y
  refine wpAny_call (codeAny_call_builtin dga_plain dga_entry (@check_slot (model PySem.Challenge.rw_in0194_01.row.prog w) _ _ _ "collections.defaultdict.__getattribute__" "collections.defaultdict" "__getattribute__" (.ref x) [.str name tk] [] _ dga_kind dga_split (ty.andThen dfd) (dga_args _ _) ?_))
  unfold Builtin.«object.__getattribute__»
  repeat ((fail_if_success (with_reducible show wpAny _ _ (bindTo _ _ _ _) _ _ _)); lk)
  show wpAny _ _ (holding [a] (call gv [a, .ref x, .ref 72]) >>= ret) _ _ _
  exact wpAny_bind (wpAny_holding (wpAny_mono hq (fun v s' z => wpAny_pure z) fun _ _ z => z))

/-- the by-its-own road of such an object's attribute -/
theorem own_open {fill ex : Bool} {Q : Value → Shared → Prop} (Y : FD (model PySem.Challenge.rw_in0194_01.row.prog w) h) (hx : h.get? x = some o) (hc : o.cls = .ref 72) (G : GA w h)
    (hq : wpAny (model PySem.Challenge.rw_in0194_01.row.prog w) A (call (.builtin "collections.defaultdict.__getattribute__") [.ref x, .str name tk]) (fun v s' => wpAny (model PySem.Challenge.rw_in0194_01.row.prog w) A (handedOut v) Q E s') (fun e s' => wpAny (model PySem.Challenge.rw_in0194_01.row.prog w) A (getattributeRaised (.ref x) (.str name tk) (.ref 72) e none fill ex) Q E s') ⟨h, g, d, t, os⟩) :
    wpAny (model PySem.Challenge.rw_in0194_01.row.prog w) A (getAttrBy (.ref x) (.str name tk) fill ex) Q E ⟨h, g, d, t, os⟩ := by
  have ty := Y.ty hx hc
  have L1 := G.ga
  have L2 := G.hook
  unfold getAttrBy
  refine wpAny_holding (wpAny_bind (ty.at (wpAny_bind (L1.at ?_))))
  show wpAny _ _ (getAttrByItsOwn _ _ _ _ _ _) _ _ _
  unfold getAttrByItsOwn
  refine wpAny_bind (m := hookBefore _) ?_
  unfold hookBefore
  rw [if_pos (show onTheHeap (.ref 72) = true from rfl)]
  refine L2.at ?_
  refine wpAny_bind (wpAny_attempt (wpAny_holding ?_))
  unfold callGetattribute
  rw [if_neg (by cases ex <;> simp [onTheHeap])]
  unfold boundAndCalled
  rw [dga_bind]
  refine wpAny_bind (wpAny_pure ?_)
  exact hq

theorem isAttrErr {h' : Heap} {e : Addr} {ov : Value} {nm : Str} {Q : Bool → Shared → Prop} (he : Heap.NewAttrErr h h' e ov nm) (hq : Q true ⟨h', g, d, t, os⟩) :
    wpAny (model PySem.Challenge.rw_in0194_01.row.prog w) A (isInstance (.ref e) (.type "AttributeError")) Q E ⟨h', g, d, t, os⟩ := by
  obtain ⟨_, _, h1⟩ := he.there
  unfold isInstance
  refine wpAny_bind (wpAny_typeOf (T := "AttributeError") ⟨_, h1, rfl⟩ ?_)
  exact wpAny_of_eq sub_AttributeError hq

theorem getAttrBy?_missing {Q : Option Value → Shared → Prop} (Y : FD (model PySem.Challenge.rw_in0194_01.row.prog w) h) (hx : h.get? x = some o) (hc : o.cls = .ref 72) (G : GA w h) (hf : Looks (model PySem.Challenge.rw_in0194_01.row.prog w) h (find (.ref x) (.ref 72) name) .missing)
    (hl : name.length ≤ 100) (hA : A.handled = none)
    (hq : ∀ h' tk', (∀ b o, h.get? b = some o → h'.get? b = some o) → Q none ⟨h', g, d, tk', os⟩) :
    wpAny (model PySem.Challenge.rw_in0194_01.row.prog w) A (getAttrBy? (.ref x) (.str name tk)) Q E ⟨h, g, d, t, os⟩ := by
  unfold getAttrBy?
  refine wpAny_bind (wpAny_attempt ?_)
  refine own_open Y hx hc G ?_
  refine dga_missing Y hx hc G hf hl hA ?_
  intro h' tk' e he
  unfold getattributeRaised
  refine wpAny_bind (isAttrErr he ?_)
  rw [if_pos rfl]
  refine wpAny_bind (wpAny_pure ?_)
  show wpAny _ _ (attributeErrorLeaves _ _ _ false _) _ _ _
  unfold attributeErrorLeaves
  refine wpAny_throw ?_
  refine wpAny_bind (isAttrErr he ?_)
  rw [if_pos rfl]
  exact wpAny_pure (hq h' tk' he.keeps)

theorem getAttrBy?_value {v : Value} {Q : Option Value → Shared → Prop} (Y : FD (model PySem.Challenge.rw_in0194_01.row.prog w) h) (hx : h.get? x = some o) (hc : o.cls = .ref 72) (G : GA w h) (hf : Looks (model PySem.Challenge.rw_in0194_01.row.prog w) h (find (.ref x) (.ref 72) name) (.value v)) (hv : handedIn v = true)
    (hq : Q (some v) ⟨h, g, d, t, os⟩) :
    wpAny (model PySem.Challenge.rw_in0194_01.row.prog w) A (getAttrBy? (.ref x) (.str name tk)) Q E ⟨h, g, d, t, os⟩ := by
  unfold getAttrBy?
  refine wpAny_bind (wpAny_attempt ?_)
  refine own_open Y hx hc G ?_
  refine dga_value Y hx hc hf ?_
  rw [handedOut_of hv]
  exact wpAny_pure (wpAny_pure hq)

set_option maxHeartbeats 4000000 in
theorem getattr3 {dflt : Value} {Q : Value → Shared → Prop} (Y : FD (model PySem.Challenge.rw_in0194_01.row.prog w) h) (hx : h.get? x = some o) (hc : o.cls = .ref 72) (G : GA w h) (hn : (name != ("get_source" : Str)) = true)
    (hq : wpAny (model PySem.Challenge.rw_in0194_01.row.prog w) A.in1 (getAttrBy? (.ref x) (.str name tk)) (fun r s' => Q (r.getD dflt) s') E ⟨h, g, d, t, os⟩) :
    wpAny (model PySem.Challenge.rw_in0194_01.row.prog w) A (call (.builtin "getattr") [.ref x, .str name tk, dflt]) Q E ⟨h, g, d, t, os⟩ := by
  have ty := Y.ty hx hc
  have inm : Looks (model PySem.Challenge.rw_in0194_01.row.prog w) h (isInstance (.ref x) (.type "module")) false := ty.andThen G.nom
  refine Calls.call_function_entry KB.kind_getattr KB.plain_getattr KB.entry_getattr (args_getattr_3 _ _ _) ?_
  unfold Builtin.«getattr»
  refine wpAny_bind (wpAny_of_eq (a := [.ref x, .str name tk, dflt]) (by first | rfl | kernel_rfl) ?_)
  dsimp only
  refine wpAny_bind (wpAny_of_eq (a := ()) (by first | rfl | kernel_rfl) ?_)
  refine wpAny_bind ?_
  show wpAny _ _ (if (name != ("get_source" : Str)) = true then pure none else _) _ _ _
  rw [if_pos hn]
  refine wpAny_pure ?_
  dsimp only
  refine wpAny_bind ?_
  repeat ((fail_if_success (with_reducible refine wpAny_bind (m := getAttrBy? _ _) ?_)); lk)
  refine wpAny_bind (wpAny_mono hq (fun r s' hr => ?_) fun _ _ z => z)
  cases r with
  | some v => exact wpAny_pure ⟨_, rfl, hr⟩
  | none =>
    rw [if_neg (by decide)]
    exact wpAny_pure ⟨_, rfl, hr⟩
end
end Mine
end
section
open PySem PySem.W PyProof.Rows PySem.Calls PySem.Spec Mine
local macro_rules | `(tactic| walk_at "call ref") => `(tactic| (k_here; k_dflt (first
  | (refine' pure_use ?k1 ?k2 ?k3 ?k4 ?k5 ?kK (fspath_c _ _ _) ?kd ?ku ?kp ?_)
  | (refine' pure_use ?k1 ?k2 ?k3 ?k4 ?k5 ?kK (get_sep_c _ _ _) ?kd ?ku ?kp ?_)); (((case k1 => k_asm); (case k2 => k_asm); (case k3 => k_asm); (case k4 => k_asm); (case k5 => k_asm); (case kK => first | exact rfl | assumption); (case kd => ktr_room); (case ku => ktr_units)); (case kp => exact True.intro); intro t9 h9 tk9 F9 N9; (try dsimp only); (try k_fold))))
section
open PySem PySem.W PyProof.Rows PySem.Calls PySem.Spec
set_option Elab.async false
namespace Mine

theorem along_missing (K : Frag) : alongIn K "__missing__" [.type "collections.defaultdict", .type "dict", .type "object"] = some (some (.builtin "collections.defaultdict.__missing__")) := by
  first | rfl | kernel_rfl
section
variable {h₀ h h' : Heap} {L : Addr} {a b : List (Addr × Obj)}
theorem news_sub (N : News h₀ L h a) (hs : ∀ p ∈ b, p ∈ a) : News h₀ L h b := fun p hp => N p (hs p hp)
noncomputable abbrev emptyL (c : Nat) : Obj := { cls := .type "list", data := .seq #[] c }
/-- the ledger with x's object set anew -/
noncomputable abbrev upd (x : Addr) (o : Obj) (news : List (Addr × Obj)) : List (Addr × Obj) := (x, o) :: news.filter (fun p => decide (p.1 ≠ x))
theorem news_updX {x : Addr} {o o' : Obj} (N : News h₀ L h a) (hx : (x, o) ∈ a) (hs : Heap.SameBut x h h') (ho : h'.get? x = some o') : News h₀ L h' (upd x o' a) := by
  intro p hp
  rcases List.mem_cons.mp hp with rfl | hp
  · exact ⟨ho, (N _ hx).2⟩
  · obtain ⟨hp, hne⟩ := List.mem_filter.mp hp
    have hne := of_decide_eq_true hne
    exact ⟨(hs.2 p.1 hne).trans (N p hp).1, (N p hp).2⟩
theorem upd_mono {x : Addr} {o : Obj} (hs : ∀ p ∈ b, p ∈ a) : ∀ p ∈ upd x o b, p ∈ upd x o a := by
  intro p hp
  rcases List.mem_cons.mp hp with rfl | hp
  · exact .head _
  · obtain ⟨h1, h2⟩ := List.mem_filter.mp hp
    exact .tail _ (List.mem_filter.mpr ⟨hs _ h1, h2⟩)
end
set_option maxRecDepth 100000 in
set_option maxHeartbeats 8000000 in
theorem missing_core (w : World) (x dx : Addr) (key : Str) (tk : Tok) (fac : Value) (es : Array DictEntry) (n : Nat) (kvs : List (Str × Value))
  (p : Program) (loose : List Str) (mean : ExcName → Option Value) (mg mb : Str → Option Value) (dp un : Nat) (gd : Option (List Code)) (cn : Str) (cs : Scope) (a : Addr) (ccd : Value) (cl : List (Str × Addr)) (outer : List Env) (A₀ : Around) (base h₀ : Heap) (L : Addr) (m : Str → Option Value) (news : List (Addr × Obj)) (s : Shared) (Q E : Value → Shared → Prop)
  (B : Below A₀ base outer h₀) (F : Fr h₀ L s.heap m) (X : (Mine.hd.heap_1 w.params).In h₀) (N : News h₀ L s.heap news) (hx : (x, fdd fac dx es n) ∈ news) (h72 : 72 < x) (hdx : (dx, emptyDict) ∈ news) (D : DOf w es kvs) (hn : valueAt kvs key = none) (hsz : kvs.length ≤ sizeLine) (hfac : fac = .type "int" ∨ fac = .type "list") (T : Top p loose mean mg mb h₀) (hk : cs.kind = .function)
  (hd : dp + 1 < recursionLimit) (hu : un + 8 * 1 < cLine) (hret : (fac = .type "int" → ∀ t h' tk' es' n', DOf w es' (stored kvs key (.int 0 t)) → Fr h₀ L h' m → News h₀ L h' (upd x (fdd fac dx es' n') news) → Q (.int 0 t) { s with heap := h', toks := tk' }) ∧
    (fac = .type "list" → ∀ r c h' tk' es' n', DOf w es' (stored kvs key (.ref r)) → Fr h₀ L h' m → News h₀ L h' ((r, emptyL c) :: upd x (fdd fac dx es' n') news) → (∀ q ∈ news, q.1 < r) → Q (.ref r) { s with heap := h', toks := tk' })) :
      wpAny (model PySem.Challenge.rw_in0194_01.row.prog w) (ktrTop dp un gd cn cs L a ccd cl outer) (call (.ref 62) [.ref x, .str key tk]) Q E s := by
  refine wpAny_call ?_
  (refine' ks_code_super ?k1 ?k2 ?k3 ?k4 ?k5 ?kA ?kF ?kK ?k6 ?k7 ?k8 ?k9 ?kB ?_ ?c1 ?c2 ?c3 ?c4; (case kA => exact rfl); (case kF => exact rfl); (case kK => assumption); (case k1 => k_asm); (case k2 => k_asm); (case k3 => k_asm); (case k4 => k_asm); (case k5 => k_asm); (case k6 => k_is); (case k7 => k_is); (case k8 => ktr_room); (case k9 => exact BindsTo.of_eq rfl); (case kB => exact locs rfl); (case c1 => decide); (case c2 => exact rfl); (case c3 => exact rfl); (case c4 => exact rfl))
  intro g L' h₁ FG F' N' B' X' T' l1
  refine _root_.PySem.ks_wpAt_execs_cons (_root_.PySem.ks_wpAt_Return_some ?_)
  refine _root_.PySem.wpAt_bind (m := eval (Expr.Call (Expr.Name "getattr" _) _ [] _) _) ?_
  refine _root_.PySem.wpAt_bind (m := eval (Expr.Name "getattr" _) _) ?_
  refine _root_.PySem.wpAt_of_wpAny ?_
  walk1
  refine at_callWith_builtin rfl (at_args (at_more ?_))
  refine _root_.PySem.wpAt_of_wpAny ?_
  walk1
  refine at_more ?_
  refine _root_.PySem.wpAt_of_wpAny ?_
  walk1
  refine at_more ?_
  rw [arm_eval_Attribute]
  refine _root_.PySem.wpAt_bind ?_
  have I : InstAt h₁ x (fdd fac dx es n) 72 (some emptyDict) := ⟨(N' _ hx).1, rfl, rfl, (N' _ hdx).1⟩
  (k_dflt (refine ks_node (C := 72) (odx := some emptyDict) F' X' N' T' (by k_is) (by rfl) (by rfl) I (by k_is) (by rfl) (by first | rfl | decide +kernel) (by k_is) (by k_is) (by k_is) (by k_is) (by decide) (by rfl) (by rfl) (by rfl) (by rfl) (by decide +kernel) (by first | boot_by_name | rfl | kernel_rfl) ?_))
  intro so h2 F2 N2 l2
  refine _root_.PySem.wpAt_of_wpAny ?_
  refine _root_.PySem.wpAny_bind (wpAny_standAt ?_)
  refine _root_.PySem.wpAny_bind (wpAny_holding ?_)
  have X2 := (X'.keeps F2.keep)
  have Y2 := fd_of (M := model PySem.Challenge.rw_in0194_01.row.prog w) X2
  have hx2 : h2.get? x = some (fdd fac dx es n) := (N2 _ (.tail _ hx)).1
  have hne : x ≠ 72 := Nat.ne_of_gt h72
  refine superGet (o := fdd fac dx es n) X2 Y2 hx2 rfl hne (N2 _ (.head _)).1 (looks_opaque X2 (by k_is)) (by decide +kernel) (along_missing _) ?_
  refine _root_.PySem.wpAny_bind (wpAny_letTemporaryGo (wpAny_pure ?_))
  have F3 := F2.push (bfm x)
  have N3 := N2.push F2 (bfm x)
  refine at_none ?_
  have X3 := (X'.keeps F3.keep)
  have Y3 := fd_of (M := model PySem.Challenge.rw_in0194_01.row.prog w) X3
  have hx3 : (h2.push (bfm x)).get? x = some (fdd fac dx es n) := (N3 _ (.tail _ (.tail _ hx))).1
  have hdx3 : (h2.push (bfm x)).get? dx = some emptyDict := (N3 _ (.tail _ (.tail _ hdx))).1
  have I3 : InstAt (h2.push (bfm x)) x (fdd fac dx es n) 72 (some emptyDict) := ⟨hx3, rfl, rfl, hdx3⟩
  refine getattr3 Y3 hx3 rfl (ga_of X3) (by decide +kernel) ?_
  refine getAttrBy?_missing Y3 hx3 rfl (ga_of X3) (find_missing X3 I3) (by decide +kernel) rfl ?_
  intro h4 tk4 k4
  have F4 := F3.keeps k4
  have N4 := N3.grown k4
  generalize h2.objs.size = bq at *
  show _root_.PySem.wpAt _ _ _ (callWith _ (Value.ref bq) _ _ []) _ _ _
  refine at_callWith_bfm (x := x) rfl (at_args (at_more ?_))
  refine _root_.PySem.wpAt_of_wpAny ?_
  walk1
  refine at_none ?_
  refine ⟨(N4 _ (.head _)).1, ?_⟩
  have X4 := (X'.keeps F4.keep)
  have hx4 : h4.get? x = some (fdd fac dx es n) := (N4 _ (.tail _ (.tail _ hx))).1
  have lo : (x == sysModules) = false := by simp only [sysModules]; exact beq_eq_false_iff_ne.mpr (fun e => by subst e; exact absurd h72 (by decide))
  refine miss_call (es := es) (ep := n) (fi_of X4 hx4 rfl lo) (fq_of X4) (N4 _ (.head _)).1 hfac ?_
  rcases hfac with rfl | rfl
  · refine call_int0 ?_
    generalize Shared.toks _ = t0
    refine ⟨⟨_, fi_of X4 hx4 rfl lo⟩, ?_⟩
    refine dDefault hx4 rfl D hn ?_ hsz
    intro h5 es' ep' hx5 D' hs5
    have F5 := F4.change hs5 (N4 _ (.tail _ (.tail _ hx))).2.1 (N4 _ (.tail _ (.tail _ hx))).2.2
    have N5 := news_sub (b := upd x (fdd (.type "int") dx es' ep') news) (news_updX N4 (.tail _ (.tail _ hx)) hs5 hx5) (upd_mono fun p hp => .tail _ (.tail _ hp))
    dsimp only
    refine leaveK_ F5 N5 (fun F6 N6 => ?_)
    exact (hret.1 rfl) _ _ _ _ _ D' F6 N6
  · refine call_list0 ?_
    intro h5 c5 hs5 ho5
    have F4p := F4.push (emptyL 0)
    have N4p := N4.push F4 (emptyL 0)
    generalize hr : h4.objs.size = r at *
    have F5 : Fr g L' h5 _ := F4p.change hs5 (N4p _ (.head _)).2.1 (N4p _ (.head _)).2.2
    have N5 := news_updX N4p (.head _) hs5 ho5
    have hlt : ∀ q ∈ news, q.1 < r := fun q hq => by
      have := Heap.lt_size (N4 q (.tail _ (.tail _ hq))).1
      rw [hr] at this; exact this
    have hxr : x ≠ r := Nat.ne_of_lt (hlt _ hx)
    have hmem : (x, fdd (.type "list") dx es n) ∈ upd r (emptyL c5) ((r, emptyL 0) :: (bq, bfm x) :: (so, ks_superObj 72 x 72) :: news) :=
      .tail _ (List.mem_filter.mpr ⟨.tail _ (.tail _ (.tail _ hx)), decide_eq_true hxr⟩)
    have X5 := (X'.keeps F5.keep)
    have hx5 := (N5 _ hmem).1
    refine ⟨⟨_, fi_of X5 hx5 rfl lo⟩, ?_⟩
    refine dDefault hx5 rfl D hn ?_ hsz
    intro h6 es' ep' hx6 D' hs6
    have F6 := F5.change hs6 (N5 _ hmem).2.1 (N5 _ hmem).2.2
    have N6 := news_sub (b := (r, emptyL c5) :: upd x (fdd (.type "list") dx es' ep') news) (news_updX N5 hmem hs6 hx6) (fun p hp => by
      rcases List.mem_cons.mp hp with rfl | hp
      · exact .tail _ (List.mem_filter.mpr ⟨.head _, decide_eq_true (Ne.symm hxr)⟩)
      · rcases List.mem_cons.mp hp with rfl | hp
        · exact .head _
        · obtain ⟨h1, h2⟩ := List.mem_filter.mp hp
          exact .tail _ (List.mem_filter.mpr ⟨.tail _ (List.mem_filter.mpr ⟨.tail _ (.tail _ (.tail _ h1)), decide_eq_true (Nat.ne_of_lt (hlt _ h1))⟩), h2⟩))
    dsimp only
    refine leaveK_ F6 N6 (fun F7 N7 => ?_)
    exact (hret.2 rfl) _ _ _ _ _ _ D' F7 N7 hlt
end Mine
end
section
open PySem PySem.W PyProof.Rows PySem.Calls PySem.Spec Builtin Builtin.ObjectAttr
set_option Elab.async false
set_option maxRecDepth 100000
namespace Mine
theorem slot_mbget : Slot "member_descriptor" "__get__" "member_descriptor.__get__" :=
  .of (owner := "member_descriptor") (n := "__get__") (by rw [typeLookup_type, builtinLookup_eq_fast]; kernel_rfl) (by decide +kernel) (by decide +kernel) (by decide +kernel)
    (by first | exact .inl (by decide +kernel) | exact .inr (by decide +kernel)) (by rw [isSubtype_type]; kernel_rfl)
theorem entry_mbget : entryFor table "member_descriptor.__get__" = some Builtin.«member_descriptor.__get__» := entryFor_of_tree (by kernel_rfl)
theorem args_mbget (a b c : Value) : argsOk "member_descriptor.__get__" ⟨[a, b, c], []⟩ := by unfold argsOk; kernel_rfl
theorem fac_type : typeOf (.builtin "collections.defaultdict.default_factory") = pure (.type "member_descriptor") := by show builtinType _ = _; rw [builtinType_eq_fast]; kernel_rfl
theorem fac_entry : entryFor table "collections.defaultdict.default_factory" = some Builtin.«collections.defaultdict.default_factory» := entryFor_of_tree (by kernel_rfl)
theorem fac_plain : plainId "collections.defaultdict.default_factory" = true := by decide +kernel
theorem fac_quiet : ("collections.defaultdict.default_factory").startsWith "lifetime." = false := by decide +kernel
set_option maxHeartbeats 4000000 in
theorem find_factory {w : World} {M : Model} {h : Heap} {x : Addr} {ox : Obj} {od : Option Obj} (X : (Mine.hd.heap_1 w.params).In h) (I : InstAt h x ox 72 od) : Looks M h (find (.ref x) (.ref 72) "default_factory") (.bind (.builtin "member_descriptor.__get__") (.builtin "collections.defaultdict.default_factory")) := by
  refine looks_find X I ?_
  have hc : (clsIn (Mine.hd.heap_1 w.params) 72).isSome = true := by
    have : hasDictIn (Mine.hd.heap_1 w.params) 72 = true := by k_is
    obtain ⟨cd, h1, _⟩ := any_some this
    rw [h1]; rfl
  obtain ⟨cd, hc⟩ := Option.isSome_iff_exists.mp hc
  have h1 : findIn (Mine.hd.heap_1 w.params) (.ref 72) "default_factory" = some (some (.builtin "collections.defaultdict.default_factory")) := by k_is
  have h2 : specialIn (Mine.hd.heap_1 w.params) (.builtin "collections.defaultdict.default_factory") "__get__" = some (some (.builtin "member_descriptor.__get__")) := by first | rfl | kernel_rfl
  have h3 : takesIn (Mine.hd.heap_1 w.params) (.builtin "collections.defaultdict.default_factory") = some true := by first | rfl | kernel_rfl
  unfold findObj
  rw [hc, Option.bind_some, h1, Option.bind_some]
  simp only [h2, Option.bind_some, h3]
section
variable {w : World} {A : Around} {E : Value → Shared → Prop} {h : Heap} {g : Array GenState} {d : Drawn} {t : Nat} {os : OsState} {x dx b : Addr} {o : Obj} {es : Array DictEntry} {ep : Nat} {kvs : List (Str × Value)} {name : Str} {tk : Tok}
set_option maxHeartbeats 4000000 in
theorem fac_get {Q : Value → Shared → Prop} {fac : Value} (Y : FD (model PySem.Challenge.rw_in0194_01.row.prog w) h) (hx : h.get? x = some (fdd fac dx es ep)) (hn : fac = .type "int" ∨ fac = .type "list") (hq : Q fac ⟨h, g, d, t, os⟩) :
    wpAny (model PySem.Challenge.rw_in0194_01.row.prog w) A (call (.builtin "member_descriptor.__get__") [.builtin "collections.defaultdict.default_factory", .ref x, .ref 72]) Q E ⟨h, g, d, t, os⟩ := by
  have hT : (⟨h, g, d, t, os⟩ : Shared).TypeIs (.builtin "collections.defaultdict.default_factory") "member_descriptor" := fac_type
  have ty := Y.ty hx rfl
  have dfd := Y.dfd
  have inst : Looks (model PySem.Challenge.rw_in0194_01.row.prog w) h (isInstance (.ref x) (.type "collections.defaultdict")) true := ty.andThen dfd
  refine wpAny_call (codeAny_call_builtin slot_mbget.plain entry_mbget (slot_mbget.check _ _ _ _ _ _ _ _ hT (args_mbget _ _ _) ?_))
  clear ty dfd Y
  have e : ".".intercalate ("collections.defaultdict.default_factory".cutAt '.').dropLast = "collections.defaultdict" := by decide +kernel
  have inst' : Looks (model PySem.Challenge.rw_in0194_01.row.prog w) h (isInstance (.ref x) (.type (".".intercalate ("collections.defaultdict.default_factory".cutAt '.').dropLast))) true := by rw [e]; exact inst
  clear inst
  unfold Builtin.«member_descriptor.__get__»
  repeat lk
  refine ⟨Code.quiet_builtin _ fac_quiet, codeAny_builtin fac_entry ?_⟩
  rw [Around.under_plainId fac_plain]
  unfold Builtin.«collections.defaultdict.default_factory»
  have hfl : (Option.join (#[some fac] : Array (Option Value))[0]?).filter (fun x => x != Value.none) = some fac := by
    rcases hn with rfl | rfl <;> rfl
  show wpAny _ _ (Builtin.Collections_defaultdict.factory? (.ref x) >>= _) _ _ _
  refine wpAny_bind ?_
  unfold Builtin.Collections_defaultdict.factory?
  repeat lk
  rw [hfl]
  exact hq

theorem fac_attr {Q : Value → Shared → Prop} {fac : Value} {ex : Bool} {od : Option Obj} (X : (Mine.hd.heap_1 w.params).In h) (I : InstAt h x (fdd fac dx es ep) 72 od) (hn : fac = .type "int" ∨ fac = .type "list") (hq : Q fac ⟨h, g, d, t + 1, os⟩) :
    wpAny (model PySem.Challenge.rw_in0194_01.row.prog w) A (getAttr (.ref x) "default_factory" ex) Q E ⟨h, g, d, t, os⟩ := by
  have Y := fd_of (M := model PySem.Challenge.rw_in0194_01.row.prog w) X
  have hx := I.1
  unfold getAttr
  refine wpAny_bind (wpAny_mkText ?_)
  refine own_open Y hx rfl (ga_of X) ?_
  refine dga_desc Y hx rfl (find_factory X I) ?_
  refine fac_get Y hx hn ?_
  rcases hn with rfl | rfl <;> exact wpAny_pure hq
end
end Mine
end
section
open PySem PySem.W PyProof.Rows PySem.Calls PySem.Spec Builtin Builtin.ObjectAttr
set_option Elab.async false
set_option maxRecDepth 100000
namespace Mine
theorem passes72 (self : Value) : refuseLoop self "__setattr__" mro72 = pure () := by
  show refuseLoop self "__setattr__" (.ref 72 :: [.type "collections.defaultdict", .type "dict", .type "object"]) = pure ()
  rw [refuseLoop_ref]
  kernel_rfl
set_option maxHeartbeats 8000000 in
theorem set72 {w : World} {A : Around} {E : Value → Shared → Prop} {s : Shared} {h₀ : Heap} {L x dx : Addr} {m : Str → Option Value} {post : List (Addr × Obj)} {ox : Obj} {es es' : List DictEntry} {n n' : Nat} {v : Value} {Q : Unit → Shared → Prop} (F : Fr h₀ L s.heap m) (X₀ : (Mine.hd.heap_1 w.params).In h₀)
    (N : News h₀ L s.heap ((dx, dictOf es n) :: post)) (I : InstAt s.heap x ox 72 (some (dictOf es n))) (hdd : ox.dict = some dx) (hl : (lookIn "_frozen" (dictOf es n)).isSome = true)
    (h2 : ∀ p ∈ post, p.1 ≠ dx) (e : (putL "_frozen" (PyData.keyHash w.params "_frozen") (.str "_frozen" (s.toks + 1)) v es, putN "_frozen" es n) = (es', n')) (hz : es'.length ≤ 1000)
    (h : ∀ h', Fr h₀ L h' m → News h₀ L h' ((dx, dictOf es' n') :: post) → Q () { s with heap := h', toks := s.toks + 2 }) :
    wpAny (model PySem.Challenge.rw_in0194_01.row.prog w) A (setAttr (.ref x) "_frozen" v) Q E s := by
  obtain ⟨e1, e2⟩ := Prod.mk.inj e
  obtain ⟨hp, g, d, t, os⟩ := s
  dsimp only at *
  have X := X₀.keeps F.keep
  have Y := fd_of (M := model PySem.Challenge.rw_in0194_01.row.prog w) X
  have hs : findIn (Mine.hd.heap_1 w.params) (.ref 72) "__setattr__" = some (some (.builtin "object.__setattr__")) := by k_is
  have ha : findIn (Mine.hd.heap_1 w.params) (.ref 72) "_frozen" = some none := by k_is
  have hh : hasDictIn (Mine.hd.heap_1 w.params) 72 = true := by k_is
  have hm : mroIn (Mine.hd.heap_1 w.params) 72 (.type "object") = some true := by k_is
  refine set_plain X I hs ?_
  have SF := PySem.F.store_object
  have sub : Looks (model PySem.Challenge.rw_in0194_01.row.prog w) hp (isInstance (.ref x) (.type "object")) true := I.type.andThen (looks_mroIn X hm)
  have e0 : Obj.putName "_frozen" (PyData.keyHash w.params "_frozen") (.str "_frozen" (t + 1)) v (dictOf es n) = dictOf es' n' := by rw [putName_dict, e1, e2]
  refine codeAny_call_builtin SF.slot.plain SF.entry (@check_slot (model PySem.Challenge.rw_in0194_01.row.prog w) _ _ _ "object.__setattr__" "object" "__setattr__" (.ref x) [.str "_frozen" t, v] [] _ SF.kind SF.split sub (SF.args (.ref x) (.str "_frozen" t) v) ?_)
  rw [osa_eq, refuse_eq]
  refine wpAny_bind (wpAny_bind (I.type.at (wpAny_bind (Y.mro.at ?_))))
  rw [passes72]
  refine wpAny_pure (wpAny_bind (I.type.at (wpAny_bind ((looks_findIn X ha).at (wpAny_bind ?_)))))
  show wpAny _ _ (pure none) _ _ _
  refine wpAny_pure ?_
  dsimp only
  obtain ⟨cd, hc, hd'⟩ := any_some hh
  obtain ⟨U1, U2⟩ := news_upd (pre := []) (f := Obj.putName "_frozen" (PyData.keyHash w.params "_frozen") (.str "_frozen" (t + 1)) v) F N (fun _ hp => nomatch hp) h2 e0 rfl
  have D := (N _ (.head _)).1
  have D' := (U2 (dx, dictOf es' n') (.head _)).1
  obtain ⟨hx, hcl, hn, -⟩ := I
  obtain ⟨oc, odi, oda, osl⟩ := ox
  dsimp only at hcl hdd
  subst hcl hdd
  refine wpAny_bind (wpAny_pure (wpAny_bind (wpAny_bind (wpAny_loadPart hx (wpAny_bind ((looks_clsIn X hc).at ?_))))))
  rw [hd']
  refine wpAny_pure (a := some dx) (wpAny_bind (wpAny_pure (wpAny_bind ?_)))
  unfold nsSet
  refine wpAny_bind (wpAny_bind (wpAny_askSetting (wpAny_pure (wpAny_bind (wpAny_mkText (wpAny_bind (wpAny_loadPart D ?_)))))))
  unfold lookIn at hl
  dsimp only at hl ⊢
  have c : (!es.toArray.any (·.key.isStr "_frozen") && es.toArray.any (·.refKey)) = false := by
    rw [← Array.any_toList, ← Array.any_toList]
    split at hl
    · rename_i en he
      rw [List.any_eq_true.mpr ⟨en, List.mem_of_find?_eq_some he, List.find?_some he⟩]; rfl
    · split at hl
      · cases hl
      · rename_i z; rw [Bool.not_eq_true] at z; rw [z, Bool.and_false]
  rw [aRefKeyMayBeTheName_at, c]
  refine wpAny_updatePart D ?_
  refine wpAny_bind (wpAny_lookBehind D' (pastItsLine_dict (by rw [List.size_toArray, sizeLine_eq]; omega)) ?_)
  exact wpAny_pure (h _ U1 U2)
end Mine
end
section
open PySem PySem.W PyProof.Rows PySem.Calls PySem.Spec Builtin Builtin.ObjectAttr
set_option Elab.async false
set_option maxRecDepth 100000
namespace Mine
theorem canon_dga : Manifest.canonical "collections.defaultdict.__getattribute__" = "object.__getattribute__" := by decide +kernel
section
variable {w : World} {A : Around} {E : Value → Shared → Prop} {s : Shared} {x C : Addr} {ox : Obj} {od : Option Obj} {pl : Sem Bool} {Q : Value × List Value → Shared → Prop} {name : Str}
/-- x.name, to be called: a def or a method of the class, that the object's own dict does not hide -/
theorem gm72_fn {fv : Value} {T : String} (X : (Mine.hd.heap_1 w.params).In s.heap) (I : InstAt s.heap x ox 72 od)
    (hf : findIn (Mine.hd.heap_1 w.params) (.ref 72) name = some (some fv)) (ht : Looks (model PySem.Challenge.rw_in0194_01.row.prog w) s.heap (typeOf fv) (.type T)) (hT : T = "function" ∨ T = "method_descriptor") (hs : shadowIn od name = some false) (h : Q (fv, [.ref x]) s) :
    wpAny (model PySem.Challenge.rw_in0194_01.row.prog w) A (getMethod (.ref x) name pl) Q E s := by
  have G := ga_of (w := w) X
  unfold getMethod specialOf
  refine wpAny_bind (wpAny_bind (I.type.here (G.ga.here ?_)))
  dsimp only
  rw [canon_dga, if_neg (by decide)]
  refine wpAny_bind (wpAny_bind (I.type.here (G.hook.here ?_)))
  refine wpAny_bind (wpAny_bind (I.type.here ((looks_findIn X hf).here (wpAny_bind (ht.here ?_)))))
  rw [if_neg (by rcases hT with rfl | rfl <;> decide +kernel)]
  refine wpAny_bind (wpAny_loadPart I.at_ ?_)
  have hd := I.dict
  cases e : ox.dict with
  | none => exact wpAny_bind (wpAny_rule (wpAny_pure h))
  | some dx =>
    cases od with
    | none => rw [e] at hd; exact hd.elim
    | some o =>
      rw [e] at hd
      obtain ⟨r, a, b⟩ := Option.map_eq_some_iff.mp hs
      refine wpAny_bind (wpAny_bind (wpAny_loadPart hd ?_))
      rw [nsLook_of a]
      refine wpAny_pure ?_
      rw [b]
      exact wpAny_bind (wpAny_rule (wpAny_pure h))
theorem gm72_usual {fv : Value} {T : String} (X : (Mine.hd.heap_1 w.params).In s.heap) (I : InstAt s.heap x ox 72 od)
    (hf : findIn (Mine.hd.heap_1 w.params) (.ref 72) name = some (some fv)) (ht : Looks (model PySem.Challenge.rw_in0194_01.row.prog w) s.heap (typeOf fv) (.type T)) (hT : (Value.type T != .type "function" && Value.type T != .type "method_descriptor" && Value.type T != .type "wrapper_descriptor") = true)
    (h : wpAny (model PySem.Challenge.rw_in0194_01.row.prog w) A (getAttr (.ref x) name) (fun v => Q (v, [])) E s) : wpAny (model PySem.Challenge.rw_in0194_01.row.prog w) A (getMethod (.ref x) name pl) Q E s := by
  have G := ga_of (w := w) X
  have u : wpAny (model PySem.Challenge.rw_in0194_01.row.prog w) A (do return (← getAttr (.ref x) name, ([] : List Value))) Q E s := wpAny_bind (wpAny_mono h (fun _ _ z => wpAny_pure z) fun _ _ z => z)
  unfold getMethod specialOf
  refine wpAny_bind (wpAny_bind (I.type.here (G.ga.here ?_)))
  dsimp only
  rw [canon_dga, if_neg (by decide)]
  refine wpAny_bind (wpAny_bind (I.type.here (G.hook.here ?_)))
  refine wpAny_bind (wpAny_bind (I.type.here ((looks_findIn X hf).here ?_)))
  dsimp only
  refine wpAny_bind (ht.here ?_)
  rw [if_pos hT]; exact u
end
end Mine
end
section
open PySem PySem.W PyProof.Rows PySem.Calls PySem.Spec
set_option Elab.async false
namespace Mine

set_option maxRecDepth 100000
section
variable {h₀ h h' : Heap} {L : Addr} {a b : List (Addr × Obj)}
theorem news_bring {x : Addr} {o : Obj} (N : News h₀ L h a) (hx : (x, o) ∈ a) : News h₀ L h (upd x o a) := by
  intro p hp
  rcases List.mem_cons.mp hp with rfl | hp
  · exact N _ hx
  · exact N _ (List.mem_filter.mp hp).1
theorem filt_ne {x : Addr} : ∀ p ∈ a.filter (fun p => decide (p.1 ≠ x)), p.1 ≠ x := fun _ hp => of_decide_eq_true (List.mem_filter.mp hp).2
theorem mem_filt {x : Addr} {p : Addr × Obj} (hp : p ∈ a) (hne : p.1 ≠ x) : p ∈ a.filter (fun p => decide (p.1 ≠ x)) := List.mem_filter.mpr ⟨hp, decide_eq_true hne⟩
theorem mem_upd {x : Addr} {o : Obj} {p : Addr × Obj} (hp : p ∈ a) (hne : p.1 ≠ x) : p ∈ upd x o a := .tail _ (mem_filt hp hne)
end

abbrev LamC (w : World) (x f : Addr) (fac : Value) (need : List (Addr × Obj)) : Prop :=
  ∀ (p : Program) (loose : List Str) (mean : ExcName → Option Value) (mg mb : Str → Option Value) (dp un : Nat) (gd : Option (List Code)) (cn : Str) (cs : Scope) (a : Addr) (ccd : Value) (cl : List (Str × Addr)) (outer : List Env) (A₀ : Around) (base h₀ : Heap) (L : Addr) (m : Str → Option Value) (news : List (Addr × Obj)) (s : Shared) (Q E : Value → Shared → Prop)
    (dx : Addr) (dxo : Obj) (es : Array DictEntry) (n : Nat) (key : Str) (tk : Tok),
    Below A₀ base outer h₀ → Fr h₀ L s.heap m → (Mine.hd.heap_1 w.params).In h₀ → News h₀ L s.heap news → Top p loose mean mg mb h₀ → cs.kind = .function →
    dp + 1 < recursionLimit → un + 8 * 1 < cLine → (∀ q ∈ need, q ∈ news) → (x, fdd fac dx es n) ∈ news → (dx, dxo) ∈ news →
    ((fac = .type "int" → ∀ t h' tk', Fr h₀ L h' m → News h₀ L h' news → Q (.int 0 t) { s with heap := h', toks := tk' }) ∧
     (fac = .type "list" → ∀ r c h' tk', Fr h₀ L h' m → News h₀ L h' ((r, emptyL c) :: news) → (∀ q ∈ news, q.1 < r) → Q (.ref r) { s with heap := h', toks := tk' })) →
      wpAny (model PySem.Challenge.rw_in0194_01.row.prog w) (ktrTop dp un gd cn cs L a ccd cl outer) (call (.ref f) [.str key tk]) Q E s

/-- the table of freeze's inner code: empty, or with the lambda's code in it -/
def TabS (news : List (Addr × Obj)) : Prop :=
  (64, tabObj #[]) ∈ news ∨ ∃ c' oc vs t, (64, tabObj (#[] ++ #[rawInt 33, rawInt 23, .ref c'])) ∈ news ∧ (c', oc) ∈ news ∧ oc.data = .fields vs ∧ vs[1]? = some (.str "FreezableDefaultDict.freeze.<locals>.<lambda>" t)
noncomputable abbrev frz (w : World) (tk : Tok) (f : Addr) (n : Nat) : Obj := dictOf [⟨PyData.keyHash w.params "_frozen", .str "_frozen" tk, .ref f⟩] n
def DX (w : World) (o : Obj) : Prop := o = emptyDict ∨ ∃ tk f n, o = frz w tk f n
def Stable (o : Obj) : Prop := (∀ es n, o.data ≠ .dict es n) ∧ (∀ xs n, o.data ≠ .seq xs n) ∧ (∀ vs k t, o.data = .fields vs → vs[1]? ≠ some (.int k t))
def Froz (w : World) (x f : Addr) (fac : Value) (news : List (Addr × Obj)) : Prop :=
  ∃ need fo fd, (∀ q ∈ need, q ∈ news ∧ q.1 ≠ 64 ∧ Stable q.2) ∧ LamC w x f fac need ∧ (f, fo) ∈ need ∧ fo.data = .func fd

set_option maxHeartbeats 8000000 in
theorem code68 {w : World} {h : Heap} (X : (Mine.hd.heap_1 w.params).In h) : CodeHd h 68 64 :=
  ⟨_, _, _, _, _, _, _, _, _, X 68 _ (by k_is), rfl, rfl, rfl, rfl, rfl, rfl, rfl, rfl, by decide⟩

theorem mem1 {α : Type} {a : α} {r : List α} : a ∈ a :: r := .head _
theorem mem2 {α : Type} {a b : α} {r : List α} : b ∈ a :: b :: r := .tail _ (.head _)
theorem mem4 {α : Type} {a b c d : α} {r : List α} : d ∈ a :: b :: c :: d :: r := .tail _ (.tail _ (.tail _ (.head _)))
theorem mem5 {α : Type} {a b c d e : α} {r : List α} : e ∈ a :: b :: c :: d :: e :: r := .tail _ (.tail _ (.tail _ (.tail _ (.head _))))
theorem mem6 {α : Type} {a b c d e f : α} {r : List α} : f ∈ a :: b :: c :: d :: e :: f :: r := .tail _ (.tail _ (.tail _ (.tail _ (.tail _ (.head _)))))
theorem mem7 {α : Type} {a b c d e f g : α} {r : List α} (h : g ∈ r) : g ∈ a :: b :: c :: d :: e :: f :: r := .tail _ (.tail _ (.tail _ (.tail _ (.tail _ (.tail _ h)))))
theorem mem3 {α : Type} {a b c : α} {r : List α} : c ∈ a :: b :: c :: r := .tail _ (.tail _ (.head _))
theorem dx_put {w : World} {o : Obj} (hD : DX w o) : ∃ es0 n0, o = dictOf es0 n0 ∧ (∀ t v, ∃ tk n, putL "_frozen" (PyData.keyHash w.params "_frozen") (.str "_frozen" t) v es0 = [⟨PyData.keyHash w.params "_frozen", .str "_frozen" tk, v⟩] ∧ putN "_frozen" es0 n0 = n) ∧ es0.length ≤ 1000 ∧ (lookIn "_frozen" (dictOf es0 n0)).isSome = true := by
  rcases hD with rfl | ⟨tk, f, n, rfl⟩
  · exact ⟨[], 0, rfl, fun t v => ⟨t, _, rfl, rfl⟩, by decide, rfl⟩
  · refine ⟨_, n, rfl, fun t v => ⟨tk, _, ?_, rfl⟩, by simp, ?_⟩
    · simp [putL, Value.isStr]
    · simp [lookIn, dictOf, Value.isStr]
set_option maxHeartbeats 1000000 in
theorem freeze_core (w : World) (x dx : Addr) (fac : Value) (es : Array DictEntry) (n : Nat) (dxo : Obj)
  (p : Program) (loose : List Str) (mean : ExcName → Option Value) (mg mb : Str → Option Value) (dp un : Nat) (gd : Option (List Code)) (cn : Str) (cs : Scope) (a : Addr) (ccd : Value) (cl : List (Str × Addr)) (outer : List Env) (A₀ : Around) (base h₀ : Heap) (L : Addr) (m : Str → Option Value) (news : List (Addr × Obj)) (s : Shared) (Q E : Value → Shared → Prop)
  (B : Below A₀ base outer h₀) (F : Fr h₀ L s.heap m) (X : (Mine.hd.heap_1 w.params).In h₀) (N : News h₀ L s.heap news) (hx : (x, fdd fac dx es n) ∈ news) (h72 : 72 < x) (hdx : (dx, dxo) ∈ news) (hD : DX w dxo) (hT : TabS news) (hfac : fac = .type "int" ∨ fac = .type "list") (T : Top p loose mean mg mb h₀) (hk : cs.kind = .function)
  (hd : dp + 1 < recursionLimit) (hu : un + 8 * 1 < cLine)
  (hret : ∀ h' tk' news' tk f n', Fr h₀ L h' m → News h₀ L h' news' → (∀ q ∈ news, q.1 ≠ dx → q.1 ≠ 64 → q ∈ news') → (dx, frz w tk f n') ∈ news' → Froz w x f fac news' → TabS news' → Q .none { s with heap := h', toks := tk' }) :
      wpAny (model PySem.Challenge.rw_in0194_01.row.prog w) (ktrTop dp un gd cn cs L a ccd cl outer) (call (.ref 69) [.ref x]) Q E s := by
  refine wpAny_call ?_
  k_dflt (refine' code_defC ?k1 ?k2 ?k3 ?k4 ?k5 ?kA ?kF ?kK ?k6 ?k7 ?k8 ?k9 ?kB ?kD ?_ ?c2 ?c3 ?c4; (case kA => exact rfl); (case kF => exact rfl); (case kK => assumption); (case k1 => k_asm); (case k2 => k_asm); (case k3 => k_asm); (case k4 => k_asm); (case k5 => k_asm); (case k6 => k_is); (case k7 => k_is); (case k8 => ktr_room); (case k9 => exact BindsTo.of_eq rfl); (case kB => exact rfl); (case kD => decide +kernel); (case c2 => exact rfl); (case c3 => exact rfl); (case c4 => exact rfl); k_whole; intro g' LF h' tk' cells' FG' F' N' Y' B' X' T' l1; k_cells Y'; (try simp only [List.cons_append, List.nil_append] at N'); (try dsimp only); (try k_fold))
  rename_i ocell hcell
  have C' := code68 X'
  k_steps
  k_dflt (refine' kla_eval ?d0 ?_; (case d0 => exact rfl))
  have h64 : 64 < LF := Nat.lt_of_lt_of_le (by decide) (Nat.le_of_lt (Nat.lt_trans h72 (l1 _ hx)))
  have hcN : (LF + 1, ocell) ∈ (LF + 1, ocell) :: news := .head _
  have hdxne : ∀ xs, (64, tabObj xs) ∈ news → dx ≠ 64 := fun xs hT e => by
    have e1 := (N _ hdx).1; have e2 := (N _ hT).1
    dsimp only at e e1 e2
    rw [e, e2] at e1
    rcases hD with rfl | ⟨_, _, _, rfl⟩ <;> cases e1
  rcases hT with hT | ⟨c', oc, vs, t, hT1, hT2, d1, d2⟩
  case' inl =>
    have N'' := news_bring N' (.tail _ hT)
    k_dflt (refine' kla_nest F' N'' T' C' rfl (UpdF.head filt_ne) (by exact True.intro) (by rfl) (by rfl) ?_)
    intro f c' oc vs t ctv h2 tk2 F2 N2 d1 d2 l2 l3
    have ldx := l1 _ hdx
    have lc : LF + 1 < c' := l2 _ (mem_upd (.head _) (Nat.ne_of_gt (Nat.lt_succ_of_lt h64)))
    have lc' : LF < c' := Nat.lt_of_succ_lt lc
    have hc1 : c' ≠ dx := Nat.ne_of_gt (Nat.lt_trans ldx lc')
    have hc2 : c' ≠ 64 := Nat.ne_of_gt (Nat.lt_trans h64 lc')
    have hf1 : f ≠ dx := Nat.ne_of_gt (Nat.lt_trans ldx (Nat.lt_trans lc' l3))
    have hf2 : f ≠ 64 := Nat.ne_of_gt (Nat.lt_trans h64 (Nat.lt_trans lc' l3))
    have hdx64 := hdxne _ hT
    replace N2 := news_sub (b := _ :: (c', oc) :: (64, tabObj (#[] ++ #[rawInt 33, rawInt 23, .ref c'])) :: (LF + 1, ocell) :: (x, fdd fac dx es n) :: (dx, dxo) :: ((LF + 1, ocell) :: news).filter (fun p => decide (p.1 ≠ 64))) N2 (fun q hq => by
      rcases List.mem_cons.mp hq with rfl | hq
      · exact .head _
      · refine .tail _ ?_
        rcases List.mem_cons.mp hq with rfl | hq
        · exact .head _
        · refine .tail _ ?_
          rcases List.mem_cons.mp hq with rfl | hq
          · exact .head _
          · refine .tail _ ?_
            rcases List.mem_cons.mp hq with rfl | hq
            · exact mem_filt (.head _) (Nat.ne_of_gt (Nat.lt_succ_of_lt h64))
            · rcases List.mem_cons.mp hq with rfl | hq
              · exact mem_filt (.tail _ hx) (Nat.ne_of_gt (Nat.lt_trans (by decide) h72))
              · rcases List.mem_cons.mp hq with rfl | hq
                · exact mem_filt (.tail _ hdx) hdx64
                · exact hq)
    clear N'' hT l2 l3 lc lc' ldx
    generalize hql : (envOfC (Str.ofString "FreezableDefaultDict.freeze") _ _ _ _).qual ++ Str.ofString "<lambda>" = ql at *
    have hq : ql = "FreezableDefaultDict.freeze.<locals>.<lambda>" := by rw [← hql]; kernel_rfl
    clear hql
  case' inr =>
    k_dflt (refine' kla_hit (c' := c') F' N' T' C' rfl (.tail _ hT1) (by simp [TriplesOk, rawInt]) (by simp [codeAmong, rawInt]) (by rfl) ?_)
    intro f ctv h2 tk2 F2 N2 l2
    have ldx := l1 _ hdx
    have hc1 : c' ≠ dx := fun e => by
      have e1 := (N _ hdx).1; have e2 := (N _ hT2).1
      dsimp only at e e1 e2
      rw [← e, e2] at e1
      cases e1
      rcases hD with rfl | ⟨_, _, _, rfl⟩ <;> cases d1
    have hc2 : c' ≠ 64 := fun e => by
      have e1 := (N _ hT1).1; have e2 := (N _ hT2).1
      dsimp only at e e1 e2
      rw [← e, e2] at e1
      cases e1
      cases d1
      cases d2
    have hf1 : f ≠ dx := Nat.ne_of_gt (l2 _ (.tail _ hdx))
    have hf2 : f ≠ 64 := Nat.ne_of_gt (l2 _ (.tail _ hT1))
    have hdx64 := hdxne _ hT1
    replace N2 := news_sub (b := _ :: (c', oc) :: (64, tabObj (#[] ++ #[rawInt 33, rawInt 23, .ref c'])) :: (LF + 1, ocell) :: (x, fdd fac dx es n) :: (dx, dxo) :: ((LF + 1, ocell) :: news).filter (fun p => decide (p.1 ≠ 64))) N2 (fun q hq => by
      rcases List.mem_cons.mp hq with rfl | hq
      · exact .head _
      · refine .tail _ ?_
        rcases List.mem_cons.mp hq with rfl | hq
        · exact .tail _ hT2
        · rcases List.mem_cons.mp hq with rfl | hq
          · exact .tail _ hT1
          · rcases List.mem_cons.mp hq with rfl | hq
            · exact .head _
            · rcases List.mem_cons.mp hq with rfl | hq
              · exact .tail _ hx
              · rcases List.mem_cons.mp hq with rfl | hq
                · exact .tail _ hdx
                · exact (List.mem_filter.mp hq).1)
    clear hT1 hT2 l2 ldx
    generalize hql : (envOfC (Str.ofString "FreezableDefaultDict.freeze") _ _ _ _).qual ++ Str.ofString "<lambda>" = ql at *
    have hq : ql = "FreezableDefaultDict.freeze.<locals>.<lambda>" := by rw [← hql]; kernel_rfl
    clear hql
    rw [← hq] at d2
  all_goals (
    have ldx := l1 _ hdx
    generalize hrest : ((LF + 1, ocell) :: news).filter (fun p => decide (p.1 ≠ 64)) = rest at *
    have hkeep : ∀ q ∈ news, q.1 ≠ 64 → q ∈ rest := fun q hq hne => by rw [← hrest]; exact mem_filt (.tail _ hq) hne
    clear hrest
    k_steps
    obtain ⟨es0, n0, rfl, hput, hlen, hlook⟩ := dx_put hD
    have N3 := news_bring N2 mem6
    have I : InstAt h2 x (fdd fac dx es n) 72 (some (dictOf es0 n0)) := ⟨(N2 _ mem5).1, rfl, rfl, (N2 _ mem6).1⟩
    obtain ⟨tk3, n3, hp1, hp2⟩ := hput (tk2 + 1) (.ref f)
    refine set72 F2 X' N3 I rfl hlook filt_ne (Prod.ext hp1 hp2) (by simp) ?_
    intro h3 F3 N4
    clear I N3 N2 F2
    generalize hO : kla_obj _ _ _ _ _ _ _ _ _ = O at N4
    generalize hl4 : (f, O) :: (c', oc) :: _ = l4 at N4
    k_steps
    have ma : ∀ q, q ∈ l4 → q.1 ≠ dx → q ∈ (dx, frz w tk3 f n3) :: l4.filter (fun p => decide (p.1 ≠ dx)) := fun q hq hne => .tail _ (mem_filt hq hne)
    refine hret h3 _ _ tk3 f n3 (by k_asm) (by k_asm) (fun q hq h1 h2 => ma q (hl4 ▸ mem7 (hkeep q hq h2)) h1) (.head _) ⟨[(f, O), (c', oc), (LF + 1, ocell)], O, _, ?_, ?_, mem1, congrArg Obj.data hO.symm⟩ (.inr ⟨c', oc, vs, t, ma _ (hl4 ▸ mem3) (Ne.symm hdx64), ma _ (hl4 ▸ mem2) hc1, d1, hq ▸ d2⟩)
    · intro q hq
      rcases List.mem_cons.mp hq with rfl | hq
      · refine ⟨ma _ (hl4 ▸ mem1) hf1, hf2, ?_⟩
        subst hO
        exact ⟨fun _ _ e => (nomatch e), fun _ _ e => (nomatch e), fun _ _ _ e => (nomatch e)⟩
      · rcases List.mem_cons.mp hq with rfl | hq
        · refine ⟨ma _ (hl4 ▸ mem2) hc1, hc2, ?_⟩
          exact ⟨fun _ _ e => (by rw [d1] at e; cases e), fun _ _ e => (by rw [d1] at e; cases e), fun _ _ _ e h9 => (by rw [d1] at e; cases e; rw [d2] at h9; cases h9)⟩
        · rcases List.mem_cons.mp hq with rfl | hq
          · refine ⟨ma _ (hl4 ▸ mem4) (Nat.ne_of_gt (Nat.lt_succ_of_lt ldx)), Nat.ne_of_gt (Nat.lt_succ_of_lt h64), ?_⟩
            exact ⟨fun _ _ e => (by rw [hcell] at e; cases e), fun _ _ e => (by rw [hcell] at e; cases e), fun _ _ _ e _ => (by rw [hcell] at e; cases e)⟩
          · cases hq
    · have hcell' : ocell.data = .cell (some (.ref x)) := hcell
      clear hcell F' FG' N' B' T' X' C' l1 hl4 ma F3 N4 hput hp1 hp2 hdx hD hkeep hx N F B X T hret hd hu hk hcN ldx hdxne
      intro p loose mean mg' mb dp un gd cn cs a ccd cl outer A₀ base h₀ L₂ m news s Q E dx dxo es n key tk B F X N T hk hd hu hneed hx hdx hret
      subst hO
      have hself := hneed _ mem3
      refine wpAny_call (kla_code (binds := [("key", .str key tk)]) B F X N T rfl rfl hk (hneed _ mem1) (codeRec_news N (hneed _ mem2) d1 d2) (by ktr_room) (by exact rfl) (locs rfl) ?_ rfl rfl rfl (by decide))
      clear hneed
      intro g' L' h' FG' F' N' B' X' T'
      walk1
      rw [arm_eval_Name]
      refine wpAny_bind (wpAny_standAt ?_)
      rw [if_neg (by decide)]
      have I : InstAt h' x (fdd fac dx es n) 72 (some dxo) := ⟨(N' _ hx).1, rfl, rfl, (N' _ hdx).1⟩
      refine wpAny_loadName_free rfl rfl rfl ⟨_, (N' _ hself).1, hcell'⟩ ?_
      refine gm72_usual (T := "member_descriptor") (X'.keeps F'.keep) I (by k_is) (Looks.of_pure fac_type) (by decide) ?_
      refine fac_attr (X'.keeps F'.keep) I hfac ?_
      dsimp only
      rcases hfac with rfl | rfl
      · walk1
        refine call_int0 ?_
        exact leaveK_ F' N' (fun F6 N6 => hret.1 rfl _ _ _ F6 N6)
      · walk1
        refine call_list0 ?_
        intro h5 c5 hs5 ho5
        have F4p := F'.push (emptyL 0)
        have N4p := N'.push F' (emptyL 0)
        generalize hr : h'.objs.size = r at *
        have F5 := F4p.change hs5 (N4p _ (.head _)).2.1 (N4p _ (.head _)).2.2
        have hlt : ∀ q ∈ news, q.1 < r := fun q hq => by
          have := Heap.lt_size (N' q hq).1
          rw [hr] at this; exact this
        have N5 := news_sub (b := (r, emptyL c5) :: news) (news_updX N4p (.head _) hs5 ho5) (fun q hq => by
          rcases List.mem_cons.mp hq with rfl | hq
          · exact .head _
          · exact .tail _ (mem_filt (.tail _ hq) (Nat.ne_of_lt (hlt _ hq))))
        exact leaveK_ F5 N5 (fun F6 N6 => hret.2 rfl _ _ _ _ F6 N6 hlt))
end Mine
end
section
open PySem PySem.W PyProof.Rows PySem.Calls PySem.Spec
set_option Elab.async false
namespace Mine

section
open PySem.Spec
variable {M : Model} {A : Around} {c : Code} {E : Value → Shared → Prop} {s : Shared}
theorem at_callWith_fn {pos : Pos} {a : Addr} {o : Obj} {fd : FuncData} {first : List Value} {args : List (Bool × Sem Value)} {Q : Value → Shared → Prop} (hplain : args.any (·.1) = false)
    (h : _root_.PySem.wpAt M A c (evalArgs (.ref a) true args []) (fun x s₁ => (s₁.heap.get? a = some o ∧ o.data = .func fd) ∧ wpAny M A (call (.ref a) (first ++ x.pos) x.kw) Q E s₁) E s) :
    _root_.PySem.wpAt M A c (callWith pos (.ref a) first args []) Q E s := by
  unfold callWith
  refine _root_.PySem.wpAt_bind (ks_wpAt_holding (_root_.PySem.wpAt_mono h (fun x s₁ h₁ => _root_.PySem.wpAt_of_wpAny (wpAny_bind (wpAny_standAt ?_))) fun _ _ x => x))
  have tail : ∀ {t : Sem Value}, wpAny M A t Q E s₁ → wpAny M A (t >>= fun r => holding [r] point >>= fun _ => pure r) Q E s₁ :=
    fun ht => wpAny_bind (wpAny_mono ht (fun r s₂ hr => wpAny_bind (wpAny_holding (wpAny_point (wpAny_pure hr)))) fun _ _ x => x)
  simp only [hplain, List.any_nil, Bool.or_false]
  refine wpAny_bind (m := keeperOf (.ref a)) ?_
  unfold keeperOf
  refine wpAny_bind (wpAny_load h₁.1.1 ?_)
  rw [h₁.1.2]
  refine wpAny_pure ?_
  refine wpAny_ite ?_
  split
  · exact tail h₁.2
  · exact tail (by unfold callMarked; exact wpAny_keep h₁.2)
end
set_option maxRecDepth 100000 in
set_option maxHeartbeats 8000000 in
theorem find_frozen {w : World} {M : Model} {h : Heap} {x f : Addr} {ox : Obj} {tkf : Tok} {nf : Nat} (X : (Mine.hd.heap_1 w.params).In h) (I : InstAt h x ox 72 (some (frz w tkf f nf))) : Looks M h (Builtin.ObjectAttr.find (.ref x) (.ref 72) "_frozen") (.value (.ref f)) := by
  have hown : findIn (Mine.hd.heap_1 w.params) (.ref 72) "_frozen" = some none := by k_is
  have hh : hasDictIn (Mine.hd.heap_1 w.params) 72 = true := by k_is
  exact looks_find X I (findObj_own hh hown rfl (by simp [lookIn, Value.isStr]))
set_option maxRecDepth 100000 in
set_option maxHeartbeats 8000000 in
theorem missing_froz (w : World) (x dx : Addr) (key : Str) (tk : Tok) (fac : Value) (es : Array DictEntry) (n : Nat) 
  (p : Program) (loose : List Str) (mean : ExcName → Option Value) (mg mb : Str → Option Value) (dp un : Nat) (gd : Option (List Code)) (cn : Str) (cs : Scope) (a : Addr) (ccd : Value) (cl : List (Str × Addr)) (outer : List Env) (A₀ : Around) (base h₀ : Heap) (L : Addr) (m : Str → Option Value) (news : List (Addr × Obj)) (s : Shared) (Q E : Value → Shared → Prop)
  (B : Below A₀ base outer h₀) (F : Fr h₀ L s.heap m) (X : (Mine.hd.heap_1 w.params).In h₀) (N : News h₀ L s.heap news) (hx : (x, fdd fac dx es n) ∈ news) (h72 : 72 < x) (tkf : Tok) (f : Addr) (nf : Nat) (hdx : (dx, frz w tkf f nf) ∈ news) (hfr : Froz w x f fac news) (hfac : fac = .type "int" ∨ fac = .type "list") (T : Top p loose mean mg mb h₀) (hk : cs.kind = .function)
  (hd : dp + 2 < recursionLimit) (hu : un + 8 * 2 < cLine) (hret : (fac = .type "int" → ∀ t h' tk', Fr h₀ L h' m → News h₀ L h' news → Q (.int 0 t) { s with heap := h', toks := tk' }) ∧
    (fac = .type "list" → ∀ r c h' tk', Fr h₀ L h' m → News h₀ L h' ((r, emptyL c) :: news) → (∀ q ∈ news, q.1 < r) → Q (.ref r) { s with heap := h', toks := tk' })) :
      wpAny (model PySem.Challenge.rw_in0194_01.row.prog w) (ktrTop dp un gd cn cs L a ccd cl outer) (call (.ref 62) [.ref x, .str key tk]) Q E s := by
  refine wpAny_call ?_
  (refine' ks_code_super ?k1 ?k2 ?k3 ?k4 ?k5 ?kA ?kF ?kK ?k6 ?k7 ?k8 ?k9 ?kB ?_ ?c1 ?c2 ?c3 ?c4; (case kA => exact rfl); (case kF => exact rfl); (case kK => assumption); (case k1 => k_asm); (case k2 => k_asm); (case k3 => k_asm); (case k4 => k_asm); (case k5 => k_asm); (case k6 => k_is); (case k7 => k_is); (case k8 => ktr_room); (case k9 => exact BindsTo.of_eq rfl); (case kB => exact locs rfl); (case c1 => decide); (case c2 => exact rfl); (case c3 => exact rfl); (case c4 => exact rfl))
  intro g L' h₁ FG F' N' B' X' T' l1
  refine _root_.PySem.ks_wpAt_execs_cons (_root_.PySem.ks_wpAt_Return_some ?_)
  refine _root_.PySem.wpAt_bind (m := eval (Expr.Call (Expr.Name "getattr" _) _ [] _) _) ?_
  refine _root_.PySem.wpAt_bind (m := eval (Expr.Name "getattr" _) _) ?_
  refine _root_.PySem.wpAt_of_wpAny ?_
  walk1
  refine at_callWith_builtin rfl (at_args (at_more ?_))
  refine _root_.PySem.wpAt_of_wpAny ?_
  walk1
  refine at_more ?_
  refine _root_.PySem.wpAt_of_wpAny ?_
  walk1
  refine at_more ?_
  rw [arm_eval_Attribute]
  refine _root_.PySem.wpAt_bind ?_
  have I : InstAt h₁ x (fdd fac dx es n) 72 (some (frz w tkf f nf)) := ⟨(N' _ hx).1, rfl, rfl, (N' _ hdx).1⟩
  (k_dflt (refine ks_node (C := 72) (odx := some (frz w tkf f nf)) F' X' N' T' (by k_is) (by rfl) (by rfl) I (by k_is) (by rfl) (by first | rfl | decide +kernel) (by k_is) (by k_is) (by k_is) (by k_is) (by decide) (by rfl) (by rfl) (by rfl) (by rfl) (by decide +kernel) (by first | boot_by_name | rfl | kernel_rfl) ?_))
  intro so h2 F2 N2 l2
  refine _root_.PySem.wpAt_of_wpAny ?_
  refine _root_.PySem.wpAny_bind (wpAny_standAt ?_)
  refine _root_.PySem.wpAny_bind (wpAny_holding ?_)
  have X2 := (X'.keeps F2.keep)
  have Y2 := fd_of (M := model PySem.Challenge.rw_in0194_01.row.prog w) X2
  have hx2 : h2.get? x = some (fdd fac dx es n) := (N2 _ (.tail _ hx)).1
  have hne : x ≠ 72 := Nat.ne_of_gt h72
  refine superGet (o := fdd fac dx es n) X2 Y2 hx2 rfl hne (N2 _ (.head _)).1 (looks_opaque X2 (by k_is)) (by decide +kernel) (along_missing _) ?_
  refine _root_.PySem.wpAny_bind (wpAny_letTemporaryGo (wpAny_pure ?_))
  have F3 := F2.push (bfm x)
  have N3 := N2.push F2 (bfm x)
  refine at_none ?_
  have X3 := (X'.keeps F3.keep)
  have Y3 := fd_of (M := model PySem.Challenge.rw_in0194_01.row.prog w) X3
  have hx3 : (h2.push (bfm x)).get? x = some (fdd fac dx es n) := (N3 _ (.tail _ (.tail _ hx))).1
  have hdx3 : (h2.push (bfm x)).get? dx = some (frz w tkf f nf) := (N3 _ (.tail _ (.tail _ hdx))).1
  have I3 : InstAt (h2.push (bfm x)) x (fdd fac dx es n) 72 (some (frz w tkf f nf)) := ⟨hx3, rfl, rfl, hdx3⟩
  refine getattr3 Y3 hx3 rfl (ga_of X3) (by decide +kernel) ?_
  refine getAttrBy?_value Y3 hx3 rfl (ga_of X3) (find_frozen X3 I3) rfl ?_
  obtain ⟨need, fo, fd, hneed, hlam, hfo, hfd⟩ := hfr
  generalize h2.push (bfm x) = h4 at *
  generalize h2.objs.size = bq at *
  show _root_.PySem.wpAt _ _ _ (callWith _ (Value.ref f) _ _ []) _ _ _
  refine at_callWith_fn (o := fo) (fd := fd) rfl (at_args (at_more ?_))
  refine _root_.PySem.wpAt_of_wpAny ?_
  walk1
  refine at_none ?_
  refine ⟨⟨(N3 _ (.tail _ (.tail _ (hneed _ hfo).1))).1, hfd⟩, ?_⟩
  refine hlam _ _ _ _ _ _ _ _ _ _ _ _ _ _ _ _ _ _ _ _ _ _ _ dx (frz w tkf f nf) es n key tk B' F3 X' N3 T' rfl (by ktr_room) (by ktr_units) (fun q hq => .tail _ (.tail _ (hneed q hq).1)) (.tail _ (.tail _ hx)) (.tail _ (.tail _ hdx)) ⟨fun he t h5 tk5 F5 N5 => ?_, fun he r c h5 tk5 F5 N5 l5 => ?_⟩
  · dsimp only
    refine leaveK_ F5 (news_sub (b := news) N5 fun q hq => .tail _ (.tail _ hq)) (fun F6 N6 => ?_)
    exact (hret.1 he) _ _ _ F6 N6
  · dsimp only
    refine leaveK_ F5 (news_sub (b := (r, emptyL c) :: news) N5 fun q hq => (List.mem_cons.mp hq).elim (fun e => e ▸ .head _) fun hq => .tail _ (.tail _ (.tail _ hq))) (fun F6 N6 => ?_)
    exact (hret.2 he) _ _ _ _ F6 N6 fun q hq => l5 q (.tail _ (.tail _ hq))
end Mine
end
section
open PySem PySem.W PyProof.Rows PySem.Calls PySem.Spec Builtin
set_option Elab.async false
set_option maxRecDepth 100000
namespace Mine
section
variable {prog : Program} {w : World} {A : Around} {E : Value → Shared → Prop} {s : Shared} {it d : Addr} {i ep : Nat} {es : Array DictEntry} {od : Obj}
/-- the object at d bears these entries, whatever its class -/
structure EAt (h : Heap) (d : Addr) (es : Array DictEntry) (ep : Nat) : Prop where
  at_ : ∃ od, h.get? d = some od ∧ od.data = .dict es ep
theorem EAt.keep {h h' : Heap} (x : EAt h d es ep) (k : ∀ o, h.get? d = some o → h'.get? d = some o) : EAt h' d es ep := let ⟨od, e, r⟩ := x.at_; ⟨od, k _ e, r⟩
theorem EAt.lt {h : Heap} (x : EAt h d es ep) : d < h.objs.size := let ⟨_, e, _⟩ := x.at_; Heap.lt_size e
theorem nk_item {Q : Option Value → Shared → Prop} (hit : s.heap.IsKeyIter it d i es.size ep) (hd : EAt s.heap d es ep) (hi : i < es.size)
    (hQ : ∀ h', h'.IsKeyIter it d (i + 1) es.size ep → Heap.SameBut it s.heap h' → Q (some es[i].key) { s with heap := h' }) :
    wpAny (model prog w) A (pyNext (.ref it)) Q E s := by
  obtain ⟨o, ho, hc, hf⟩ := id hit
  obtain ⟨od, hod, hdd⟩ := hd.at_
  have own : Builtin.Dict_items.ownsTuple "dict_keyiterator" = false := by decide
  unfold pyNext
  refine wpAny_bind (wpAny_attempt (wpAny_callSpecial?_slot (name := Str.ofString "__next__") hit.typeIs F.slot_dict_keyiterator_next
    (wpAny_call_entry F.slot_dict_keyiterator_next hit.typeIs F.entry_dict_keyiterator_next ?_ (F.args_dict_keyiterator_next_1 _))))
  refine wpAny_bind (wpAny_pure (wpAny_bind (wpAny_bind ?_)))
  refine wpAny_bind (wpAny_typeNameOfWhole_keyiter hit.typeIs (wpAny_pure (wpAny_bind (wpAny_fieldsOf ho hf ?_))))
  simp only [own, Bool.false_eq_true, if_false]
  show wpAny _ _ (if (Value.ref d == Value.none) = true then _ else _) _ _ s
  rw [if_neg (show ¬ ((Value.ref d == Value.none) = true) from Bool.false_ne_true)]
  refine wpAny_bind (wpAny_pure (wpAny_bind (wpAny_dictEntries hod hdd ?_)))
  rw [if_neg (by simp)]
  refine wpAny_bind (wpAny_pure (wpAny_bind (wpAny_dictEpoch hod hdd ?_)))
  rw [if_neg (by simp)]
  refine wpAny_pure ?_
  simp only [show ¬ ((i : Int) < 0) from by omega, if_false, Int.toNat_natCast, Array.getElem?_eq_getElem hi]
  refine wpAny_bind (wpAny_bind (wpAny_typeNameOfWhole_keyiter hit.typeIs (wpAny_pure (wpAny_bind (wpAny_isOneOf_keyiter hit.typeIs ?_)))))
  show wpAny _ _ (setField (.ref it) 1 (rawInt ((i : Int) + 1)) >>= _) _ _ s
  refine wpAny_bind (wpAny_setField ho hf (by simp) ?_)
  have hit' : (s.heap.update it (Obj.mapFields (·.setIfInBounds 1 (rawInt ((i : Int) + 1))))).IsKeyIter it d (i + 1) es.size ep :=
    ⟨_, Heap.get?_update_self _ ho (Obj.isFreed_of_fields (Obj.data_mapFields hf _)), (Obj.cls_mapFields ..).trans hc, by rw [Obj.data_mapFields hf]; simp [rawInt]⟩
  refine wpAny_bind (wpAny_holding (wpAny_bind (wpAny_isOneOf_keyiter (s := { s with heap := s.heap.update it (Obj.mapFields (·.setIfInBounds 1 (rawInt ((i : Int) + 1)))) }) hit'.typeIs ?_)))
  show wpAny _ _ (pure es[i].key) _ _ _
  exact wpAny_pure (wpAny_pure ⟨_, rfl, wpAny_pure (hQ _ hit' (Heap.SameBut.update ..))⟩)
/-- the iterator's end: StopIteration is made and caught -/
theorem nk_end {Q : Option Value → Shared → Prop} (hh : A.handled = none) (hit : s.heap.IsKeyIter it d i es.size ep) (hd : EAt s.heap d es ep) (hi : es.size ≤ i)
    (hQ : ∀ h', Heap.ExtBut it s.heap h' → Q none { s with heap := h' }) : wpAny (model prog w) A (pyNext (.ref it)) Q E s := by
  obtain ⟨o, ho, hc, hf⟩ := id hit
  obtain ⟨od, hod, hdd⟩ := hd.at_
  have own : Builtin.Dict_items.ownsTuple "dict_keyiterator" = false := by decide
  unfold pyNext
  refine wpAny_bind (wpAny_attempt (wpAny_callSpecial?_slot (name := Str.ofString "__next__") hit.typeIs F.slot_dict_keyiterator_next
    (wpAny_call_entry F.slot_dict_keyiterator_next hit.typeIs F.entry_dict_keyiterator_next ?_ (F.args_dict_keyiterator_next_1 _))))
  refine wpAny_bind (wpAny_pure (wpAny_bind (wpAny_bind ?_)))
  refine wpAny_bind (wpAny_typeNameOfWhole_keyiter hit.typeIs (wpAny_pure (wpAny_bind (wpAny_fieldsOf ho hf ?_))))
  simp only [own, Bool.false_eq_true, if_false]
  show wpAny _ _ (if (Value.ref d == Value.none) = true then _ else _) _ _ s
  rw [if_neg (show ¬ ((Value.ref d == Value.none) = true) from Bool.false_ne_true)]
  refine wpAny_bind (wpAny_pure (wpAny_bind (wpAny_dictEntries hod hdd ?_)))
  rw [if_neg (by simp)]
  refine wpAny_bind (wpAny_pure (wpAny_bind (wpAny_dictEpoch hod hdd ?_)))
  rw [if_neg (by simp)]
  refine wpAny_pure ?_
  simp only [show ¬ ((i : Int) < 0) from by omega, if_false, Int.toNat_natCast, Array.getElem?_eq_none hi]
  refine wpAny_bind (wpAny_bind (wpAny_typeNameOfWhole_keyiter hit.typeIs (wpAny_pure ?_)))
  show wpAny _ _ (setField (.ref it) 0 .none >>= _) _ _ s
  refine wpAny_bind (wpAny_setField ho hf (by simp) ?_)
  show wpAny _ _ (newExc (.type "StopIteration") [] >>= _) _ _ _
  simp only [newExc, newTuple]
  refine wpAny_bind (wpAny_bind (wpAny_newObj_type ?_ (by size_fits)))
  refine wpAny_bind (m := firstArgMember _ _) (wpAny_of_eq (a := Value.none) (by first | rfl | (simp only [firstArgMember]; rfl)) ?_)
  refine wpAny_newObj_type ?_ (by size_fits)
  simp only [raiseNew]
  refine wpAny_bind (wpAny_handled ?_)
  rw [show A.in1.handled = none from hh]
  refine wpAny_bind (wpAny_pure (wpAny_throw ?_))
  refine wpAny_bind (wpAny_isInstance (T := "StopIteration") (b := true) ⟨_, Heap.get?_push_size _ rfl, rfl⟩ isSubtype_stop ?_)
  exact wpAny_pure (hQ _ (((Heap.SameBut.update ..).extBut.push _).push _))
theorem nk_walks (hh : A.handled = none) (I d : Addr) (hne : d ≠ I) (es : Array DictEntry) (ep : Nat) :
    Walks prog w A I [I, d] [I] es.size (fun i v => ∃ e, es[i]? = some e ∧ v = e.key) (fun i h => h.IsKeyIter I d i es.size ep ∧ EAt h d es ep) where
  sub := fun b hb => by simp at hb; simp [hb]
  frame := fun _ _ _ st hk => ⟨st.1.at fun o e => hk I (by simp) o e, st.2.keep fun o e => hk d (by simp) o e⟩
  item := fun i s Q E hi st hQ => nk_item st.1 st.2 hi fun h' hit' hs' => hQ _ h' s.toks ⟨_, Array.getElem?_eq_getElem hi, rfl⟩ ⟨hit', st.2.keep fun o e => hs'.extBut d o hne e⟩ fun b o hb e => hs'.extBut b o (fun h => hb (by simp [h])) e
  done := fun s Q E st hQ => nk_end hh st.1 st.2 (Nat.le_refl _) fun h' he' => hQ h' s.toks fun b o hb e => he' b o (fun h => hb (by simp [h])) e
  self := fun _ _ _ _ st hQ => wpAny_pyIter_keyiter st.1 hQ
end
end Mine
end
section
open PySem PySem.W PyProof.Rows PySem.Calls PySem.Spec Builtin
set_option Elab.async false
set_option maxRecDepth 100000
namespace Mine
theorem it_plain : plainId "dict.__iter__" = true := by decide +kernel
theorem it_kind : builtinKind "dict.__iter__" = some .slot := by decide +kernel
theorem it_split : splitId "dict.__iter__" = some ("dict", "__iter__") := by decide +kernel
theorem ln_plain : plainId "dict.__len__" = true := by decide +kernel
theorem ln_kind : builtinKind "dict.__len__" = some .slot := by decide +kernel
theorem ln_split : splitId "dict.__len__" = some ("dict", "__len__") := by decide +kernel
theorem im_plain : plainId "dict.items" = true := by decide +kernel
theorem im_kind : builtinKind "dict.items" = some .method := by decide +kernel
theorem im_split : splitId "dict.items" = some ("dict", "items") := by decide +kernel
section
variable {w : World} {A : Around} {E : Value → Shared → Prop} {h : Heap} {g : Array GenState} {d : Drawn} {t : Nat} {os : OsState} {x : Addr} {o : Obj} {es : Array DictEntry} {ep : Nat}
noncomputable abbrev MM (w : World) : Model := model PySem.Challenge.rw_in0194_01.row.prog w
set_option maxHeartbeats 4000000 in
theorem ln_look {M : Model} (X : (Mine.hd.heap_1 w.params).In h) : Looks M h (typeLookup (.ref 72) "__len__") (some (.builtin "dict.__len__")) := looks_findIn X (by k_is)
noncomputable abbrev kitO (x : Addr) (n ep : Nat) : Obj := { cls := .type "dict_keyiterator", data := .fields #[.ref x, .int 0 0, .int n 0, .int ep 0] }
set_option maxHeartbeats 4000000 in
theorem it_code {R : Result → Shared → Prop} (I : FI w h x o) (hd : o.data = .dict es ep) (hq : R (.ok (.ret (.ref h.objs.size))) ⟨h.push (kitO x es.size ep), g, d, t, os⟩) :
    codeAny (MM w) A (.call (.builtin "dict.__iter__") ⟨[.ref x], []⟩) R ⟨h, g, d, t, os⟩ := by
  obtain ⟨Y, sq, hx, hc, lo, bm⟩ := I
  have ty := Y.ty hx hc
  obtain ⟨-, typ, call, dct, dfd, own, nod, mro, init, gi, si, mi, it⟩ := Y
  have inst : Looks (MM w) h (isInstance (.ref x) (.type "dict")) true := ty.andThen dct
  have ino : Looks (MM w) h (isInstance (.ref x) (.type "collections.OrderedDict")) false := ty.andThen nod
  refine codeAny_call_builtin it_plain PySem.F.entry_dict_iter (@check_slot (MM w) _ _ _ "dict.__iter__" "dict" "__iter__" (.ref x) [] [] _ it_kind it_split inst (PySem.F.args_dict_iter_1 _) ?_)
  obtain ⟨c, od, dt, sl⟩ := o
  cases hc
  cases hd
  unfold Builtin.«dict.__iter__» Builtin.Dict.showsAll
  repeat ((fail_if_success (with_reducible refine wpAny_bind (m := dictEntries _) ?_)); (first | simp only [lo, Bool.false_eq_true, if_false] | lk))
  refine wpAny_bind (wpAny_dictEntries hx rfl ?_)
  refine wpAny_bind (wpAny_dictEpoch hx rfl ?_)
  exact wpAny_bind (wpAny_newObj_type (wpAny_pure hq))
set_option maxHeartbeats 4000000 in
theorem ln_code {R : Result → Shared → Prop} (I : FI w h x o) (hd : o.data = .dict es ep) (hq : R (.ok (.ret (.int es.size t))) ⟨h, g, d, t + 1, os⟩) :
    codeAny (MM w) A (.call (.builtin "dict.__len__") ⟨[.ref x], []⟩) R ⟨h, g, d, t, os⟩ := by
  obtain ⟨Y, sq, hx, hc, lo, bm⟩ := I
  have ty := Y.ty hx hc
  obtain ⟨-, typ, call, dct, dfd, own, nod, mro, init, gi, si, mi, it⟩ := Y
  have inst : Looks (MM w) h (isInstance (.ref x) (.type "dict")) true := ty.andThen dct
  refine codeAny_call_builtin ln_plain PySem.F.entry_dict_len (@check_slot (MM w) _ _ _ "dict.__len__" "dict" "__len__" (.ref x) [] [] _ ln_kind ln_split inst (PySem.F.args_dict_len_1 _) ?_)
  obtain ⟨c, od, dt, sl⟩ := o
  cases hc
  cases hd
  unfold Builtin.«dict.__len__» Builtin.Dict.pendingCount
  repeat (first | simp only [lo, Bool.false_eq_true, if_false] | lk)
  exact hq
end
end Mine
end
section
open PySem PySem.W PyProof.Rows PySem.Calls PySem.Spec Builtin
set_option Elab.async false
set_option maxRecDepth 100000
namespace Mine
section
variable {w : World} {A : Around} {E : Value → Shared → Prop} {h : Heap} {g : Array GenState} {d : Drawn} {t : Nat} {os : OsState} {x : Addr} {o : Obj} {es : Array DictEntry} {ep : Nat}
theorem it_bind (self : Value) : bindSpecial (.builtin "dict.__iter__") self = pure (.builtin "dict.__iter__", [self]) := PySem.F.slot_dict_iter.bind self
theorem ln_bind (self : Value) : bindSpecial (.builtin "dict.__len__") self = pure (.builtin "dict.__len__", [self]) := PySem.F.slot_dict_len.bind self
theorem fdd_iter {Q : Value → Shared → Prop} (I : FI w h x o) (hd : o.data = .dict es ep) (hq : Q (.ref h.objs.size) ⟨h.push (kitO x es.size ep), g, d, t, os⟩) :
    wpAny (MM w) A (pyIter (.ref x)) Q E ⟨h, g, d, t, os⟩ := by
  have ty := I.fd.ty I.at_ I.cls
  have sp : Looks (MM w) h (specialOf (.ref x) "__iter__") (some (.builtin "dict.__iter__")) := ty.andThen I.fd.iter
  unfold pyIter
  refine wpAny_bind (sp.here ?_)
  dsimp only
  unfold callSpecialIfBoundUnlessNone? bindSpecialIfBound?
  refine wpAny_bind (wpAny_holding (wpAny_bind (wpAny_bind (sp.here ?_))))
  dsimp only
  rw [it_bind]
  have hT : (⟨h.push (kitO x es.size ep), g, d, t, os⟩ : Shared).TypeIs (.ref h.objs.size) "dict_keyiterator" := ⟨_, Heap.get?_push_size _ rfl, rfl⟩
  refine wpAny_bind (wpAny_askSetting (wpAny_ite ?_))
  split
  · refine wpAny_bind (wpAny_pure (wpAny_pure ?_))
    dsimp only
    rw [if_neg (by decide)]
    refine wpAny_bind (wpAny_call (it_code I hd (wpAny_pure ?_)))
    dsimp only
    exact wpAny_bind (wpAny_specialOf hT F.slot_dict_keyiterator_next.lookup (wpAny_pure hq))
  · refine wpAny_tryCatch (wpAny_bind (wpAny_pure (wpAny_pure ?_)))
    dsimp only
    rw [if_neg (by decide)]
    refine wpAny_bind (wpAny_call (it_code I hd (wpAny_pure ?_)))
    dsimp only
    exact wpAny_bind (wpAny_specialOf hT F.slot_dict_keyiterator_next.lookup (wpAny_pure hq))
theorem fdd_len {Q : Value → Shared → Prop} (I : FI w h x o) (X : (Mine.hd.heap_1 w.params).In h) (hd : o.data = .dict es ep) (hfit : (es.size : Int) < 2 ^ 63) (hq : Q (.int es.size (t + 1)) ⟨h, g, d, t + 1 + 1, os⟩) :
    wpAny (MM w) A (call (.builtin "len") [.ref x]) Q E ⟨h, g, d, t, os⟩ := by
  have ty := I.fd.ty I.at_ I.cls
  have sp : Looks (MM w) h (specialOf (.ref x) "__len__") (some (.builtin "dict.__len__")) := ty.andThen (ln_look X)
  refine call_function_entry kind_len plain_len entry_len (args_len1 _) ?_
  unfold Builtin.«len»
  refine wpAny_bind (m := oneArg "len" _) (wpAny_pure ?_)
  unfold callSpecial?
  refine wpAny_bind (wpAny_bind (sp.here ?_))
  dsimp only
  refine wpAny_holding ?_
  rw [ln_bind]
  refine wpAny_bind (wpAny_pure ?_)
  dsimp only
  refine wpAny_bind (wpAny_call ?_)
  refine ln_code I hd ?_
  refine wpAny_pure ?_
  dsimp only
  refine wpAny_bind (wpAny_holding (wpAny_pure ?_))
  refine wpAny_bind (wpAny_letGo ?_)
  show wpAny _ _ (if ((es.size : Nat) : Int) < 0 then _ else _) _ _ _
  rw [if_neg (by omega)]
  show wpAny _ _ (if ((es.size : Nat) : Int) ≥ 2 ^ 63 then _ else _) _ _ _
  rw [if_neg (by omega)]
  exact wpAny_bind (wpAny_mkInt (wpAny_pure ⟨_, rfl, hq⟩))
end
end Mine
end
section
open PySem PySem.W PyProof.Rows PySem.Calls PySem.Spec Builtin
set_option Elab.async false
set_option maxRecDepth 100000
namespace Mine
section
variable {w : World} {A : Around} {E : Value → Shared → Prop} {s : Shared} {x : Addr} {o : Obj} {es : Array DictEntry} {ep : Nat}
theorem fdd_hint {Q : Bool → Shared → Prop} (I : FI w s.heap x o) (X : (Mine.hd.heap_1 w.params).In s.heap) (hd : o.data = .dict es ep) (hfit : (es.size : Int) < 2 ^ 63) (h : ∀ b tk, Q b { s with toks := tk }) :
    wpAny (MM w) A (Builtin.List.listLengthHint (.ref x)) Q E s := by
  have ty := I.fd.ty I.at_ I.cls
  have inst : Looks (MM w) s.heap (isInstance (.ref x) (.type "dict")) true := ty.andThen I.fd.dct
  have sp : Looks (MM w) s.heap (specialOf (.ref x) "__len__") (some (.builtin "dict.__len__")) := ty.andThen (ln_look X)
  unfold Builtin.List.listLengthHint
  refine wpAny_bind (sp.here ?_)
  generalize hid : ("dict.__len__" : String) = id0
  wp_delta
  rw [show splitId id0 = some ("dict", "__len__") from by subst hid; decide +kernel]
  subst hid
  refine wpAny_bind (inst.here ?_)
  refine wpAny_ite_split (fun hab => absurd hab (by decide)) (fun _ => ?_)
  refine wpAny_ite_split (fun _ => ?_) (fun hab => absurd (by decide +kernel) hab)
  refine wpAny_bind (ty.here ?_)
  obtain ⟨hh, g, dr, tk, os⟩ := s
  refine wpAny_bind (fdd_len I X hd hfit ?_)
  refine wpAny_bind (wpAny_pure ?_)
  exact wpAny_pure (h _ _)

/-- list(x): a new list is filled with the keys -/
theorem fdd_extend {R : Result → Shared → Prop} (hh : A.handled = none) (I : FI w s.heap x o) (X : (Mine.hd.heap_1 w.params).In s.heap) (hd : o.data = .dict es ep) (hn : es.size ≤ sizeLine) (S : Addr) (hSx : S ≠ x) (res : Value) (c₀ : Nat)
    (hS : s.heap.get? S = some { cls := .type "list", data := .seq #[] c₀ })
    (hR : ∀ h' tk acc c, (∀ b o, b ≠ S → s.heap.get? b = some o → h'.get? b = some o) → h'.get? S = some { cls := .type "list", dict := none, data := .seq acc c, slots := #[] } → ItemsOf (fun i v => ∃ e, es[i]? = some e ∧ v = e.key) acc es.size → R (.ok (.ret res)) { s with heap := h', toks := tk }) :
    wpAny (MM w) A.in1 (Builtin.List.listExtendWith (.ref S) (.ref x) res)
      (fun fin s' => match fin with | .done f => R (.ok f) s' | .again c' => c'.quiet = true ∧ codeAny (MM w) A c' R s') (fun e s' => R (.error e) s') s := by
  have hfit : (es.size : Int) < 2 ^ 63 := by rw [sizeLine_eq] at hn; omega
  have ty := I.fd.ty I.at_ I.cls
  have hSI : S ≠ s.heap.objs.size := Nat.ne_of_lt (Heap.lt_size hS)
  have hSf : S ∉ [s.heap.objs.size, x] := by simp only [List.mem_cons, List.not_mem_nil, or_false, not_or]; exact ⟨hSI, hSx⟩
  have hxI : x ≠ s.heap.objs.size := Nat.ne_of_lt (Heap.lt_size I.at_)
  have W := nk_walks (prog := PySem.Challenge.rw_in0194_01.row.prog) (w := w) (A := A.in1) hh s.heap.objs.size x hxI es ep
  have old : ∀ b o', s.heap.get? b = some o' → (s.heap.push (kitO x es.size ep)).get? b = some o' := fun b o' e => Heap.get?_push_of_some _ e
  have st : (s.heap.push (kitO x es.size ep)).IsKeyIter s.heap.objs.size x 0 es.size ep ∧ EAt (s.heap.push (kitO x es.size ep)) x es ep := ⟨⟨_, Heap.get?_push_size _ rfl, rfl, rfl⟩, ⟨o, old _ _ I.at_, hd⟩⟩
  have key : ∀ (h : Heap) (c₁ tk : Nat), (h.IsKeyIter s.heap.objs.size x 0 es.size ep ∧ EAt h x es ep) → (∀ b o, b ≠ S → s.heap.get? b = some o → h.get? b = some o) →
      h.get? S = some { cls := .type "list", data := .seq #[] c₁ } → codeAny (MM w) A (.builtin "list.extend.loop" ⟨[.ref S, .ref s.heap.objs.size, res], []⟩) R { s with heap := h, toks := tk } := by
    intro h c₁ tk hst hk hS₁
    refine codeAny_extend_loopS W.toS hn S hSf res es.size 0 _ #[] c₁ rfl (Nat.zero_le _) hst hS₁ (ItemsOf.nil _) fun s' acc' c' hm hS' hacc => ?_
    rw [Moved.eq_with hm]
    refine hR s'.heap s'.toks acc' c' (fun b o hb e => hm.heap b o (fun hmem => ?_) (hk b o hb e)) hS' hacc
    rcases List.mem_cons.mp hmem with e' | hmem
    · exact hb e'
    · exact absurd (Heap.lt_size e) (by rw [List.mem_singleton.mp hmem]; exact Nat.lt_irrefl _)
  unfold Builtin.List.listExtendWith
  refine wpAny_bind (ty.here ?_)
  have h1 : Builtin.List.listSameRef (.ref S) (.ref x) = false := by simp [Builtin.List.listSameRef, hSx]
  have h2 : (Value.ref 72 == Value.type "list") = false := by decide
  have h3 : (Value.ref 72 == Value.type "tuple") = false := by decide
  simp only [h1, h2, h3, Bool.or_false, Bool.false_eq_true, if_false]
  obtain ⟨hp, g, dr, tk, os⟩ := s
  refine wpAny_bind (fdd_iter I hd ?_)
  dsimp only at *
  have I2 : FI w (hp.push (kitO x es.size ep)) x o := fi_of (X.keeps old) (old _ _ I.at_) I.cls I.lo
  have hS₁ := old _ _ hS
  refine wpAny_bind (wpAny_holding (fdd_hint (s := ⟨hp.push (kitO x es.size ep), g, dr, tk, os⟩) I2 (X.keeps old) hd hfit fun b tk2 => ?_))
  refine wpAny_ite_split (fun _ => ?_) (fun _ => wpAny_pure ⟨plainId_quiet PySem.F.plain_extend_loop _, key _ c₀ _ st (fun b o _ e => old b o e) hS₁⟩)
  refine wpAny_bind (wpAny_rule (wpAny_bind ?_))
  show wpAny _ _ (updateSeq S (·.push .none) >>= fun _ => updateSeq S (·.pop)) _ _ _
  refine wpAny_bind (wpAny_updateSeq hS₁ rfl ?_)
  have hS₂ := Heap.get?_update_self (Obj.mapSeq (·.push Value.none)) hS₁ rfl
  refine wpAny_updateSeq (hz := by seq_fits) hS₂ rfl ?_
  have hS₃ := Heap.get?_update_self (Obj.mapSeq (·.pop)) hS₂ rfl
  have oth : ∀ b o', b ≠ S → (hp.push (kitO x es.size ep)).get? b = some o' → (((hp.push (kitO x es.size ep)).update S (Obj.mapSeq (·.push Value.none))).update S (Obj.mapSeq (·.pop))).get? b = some o' :=
    fun b o' hb e => (Heap.get?_update_other _ _ (Ne.symm hb)).trans ((Heap.get?_update_other _ _ (Ne.symm hb)).trans e)
  refine wpAny_pure ⟨plainId_quiet PySem.F.plain_extend_loop _, key _ _ _ ?_ (fun b o hb e => oth b o hb (old b o e)) hS₃⟩
  exact W.frame 0 _ _ st fun b hb o' e => oth b o' (fun h => hSf (h ▸ hb)) e
theorem fdd_list {Q : Value → Shared → Prop} {h₀ : Heap} {L : Addr} {m : Str → Option Value} {news : List (Addr × Obj)} (hh : A.handled = none) (X : (Mine.hd.heap_1 w.params).In h₀) (F : Fr h₀ L s.heap m) (N : News h₀ L s.heap news)
    (hx : (x, o) ∈ news) (hc : o.cls = .ref 72) (lo : (x == sysModules) = false) (hd : o.data = .dict es ep) (hn : es.size ≤ sizeLine)
    (h : ∀ (D : Addr) c h' tk, Fr h₀ L h' m → News h₀ L h' ((D, listOf (es.toList.map (·.key)).toArray c) :: news) → (∀ q ∈ news, q.1 < D) → Q (.ref D) { s with heap := h', toks := tk }) :
    wpAny (MM w) A (call (.type "list") [.ref x]) Q E s := by
  have X1 := X.keeps F.keep
  refine callType_codes (Q₁ := fun obj s₁ => obj = .ref s.heap.objs.size ∧ s₁ = { s with heap := s.heap.push { cls := .type "list", data := .seq #[] } }) PySem.F.called_list (PySem.F.typeCall_list_1 _) PySem.F.entry_list_init
    (code_list_new _ ⟨rfl, rfl⟩) fun obj s₁ h₁ => ?_
  obtain ⟨rfl, rfl⟩ := h₁
  have hS : (s.heap.push { cls := .type "list", data := .seq #[] }).get? s.heap.objs.size = some { cls := .type "list", data := .seq #[] } := Heap.get?_push_size _ rfl
  have old : ∀ b o', s.heap.get? b = some o' → (s.heap.push { cls := .type "list", data := .seq #[] }).get? b = some o' := fun b o' e => Heap.get?_push_of_some _ e
  have hxs : s.heap.objs.size ≠ x := Nat.ne_of_gt (Heap.lt_size (N _ hx).1)
  refine ⟨⟨_, hS, rfl⟩, PySem.F.args_list_init_2 _ _, ?_⟩
  show wpAny _ _ (do let old ← Builtin.List.listItems (.ref s.heap.objs.size); Builtin.List.listUpdate (.ref s.heap.objs.size) (fun _ => #[]); letGo old.toList.reverse; Builtin.List.listExtendWith (.ref s.heap.objs.size) (.ref x) .none) _ _ _
  refine wpAny_bind ?_
  unfold Builtin.List.listItems
  refine wpAny_bind (wpAny_seqItems hS rfl (wpAny_pure ?_))
  show wpAny _ _ (updateSeq s.heap.objs.size (fun _ => #[]) >>= fun _ => letGo (#[] : Array Value).toList.reverse >>= fun _ => Builtin.List.listExtendWith (.ref s.heap.objs.size) (.ref x) .none) _ _ _
  refine wpAny_bind (wpAny_updateSeq hS rfl ?_)
  have hS₂ := Heap.get?_update_self (Obj.mapSeq (fun _ => (#[] : Array Value))) hS rfl
  have oth : ∀ b o', s.heap.get? b = some o' → ((s.heap.push { cls := .type "list", data := .seq #[] }).update s.heap.objs.size (Obj.mapSeq (fun _ => (#[] : Array Value)))).get? b = some o' :=
    fun b o' e => (Heap.get?_update_other _ _ (Nat.ne_of_gt (Heap.lt_size e))).trans (old b o' e)
  refine wpAny_bind (wpAny_letGo ?_)
  refine fdd_extend (A := A.in1) (R := wants (fun r s₂ => r = Value.none ∧ Q (.ref s.heap.objs.size) s₂) E) (s := { s with heap := (s.heap.push { cls := .type "list", data := .seq #[] }).update s.heap.objs.size (Obj.mapSeq (fun _ => (#[] : Array Value))) }) hh (fi_of (X1.keeps oth) (oth _ _ (N _ hx).1) hc lo) (X1.keeps oth) hd hn _ hxs .none _ hS₂ fun h' tk acc c hk hS' hacc => ?_
  have hk2 : ∀ b o', s.heap.get? b = some o' → h'.get? b = some o' := fun b o' e => hk b o' (Nat.ne_of_lt (Heap.lt_size e)) (oth b o' e)
  have hacc2 : acc = (es.toList.map (·.key)).toArray := by
    apply Array.ext
    · simp [hacc.1]
    · intro i h1 h2
      obtain ⟨e, e1, e2⟩ := hacc.2 i acc[i] (Array.getElem?_eq_getElem h1)
      simp only [List.getElem_toArray, List.getElem_map, Array.getElem_toList]
      obtain ⟨_, e3⟩ := Array.getElem?_eq_some_iff.mp e1
      rw [e2, e3]
  exact ⟨rfl, h _ c h' tk (F.keeps hk2) (news_pushed F N hk2 (by rw [← hacc2]; exact hS') rfl) fun q hq => Heap.lt_size (N q hq).1⟩
end
end Mine
end
section
open PySem PySem.W PyProof.Rows PySem.Calls PySem.Spec Builtin
set_option Elab.async false
set_option maxRecDepth 100000
namespace Mine
/-- an iterator over (key, value): its own tuple (or none yet), whether it is out, the dict, the place -/
noncomputable abbrev iitO (d : Addr) (i n ep : Nat) (f0 f1 ok ov : Value) : Obj := { cls := .type "dict_itemiterator", dict := none, data := .fields #[f0, f1, .ref d, .int i 0, .int n 0, .int ep 0, ok, ov], slots := #[] }
noncomputable abbrev tup2O (a b : Value) : Obj := { cls := .type "tuple", data := .seq #[a, b] }
/-- the tuple of its own: none yet, or one that lives at a place above S -/
def Own2 (h : Heap) (it S : Addr) (f0 f1 : Value) : Prop := (f0 = .none ∧ f1 = .bool false) ∨ ∃ (a : Addr) (oa : Obj) (b : Bool), f0 = rawInt a ∧ f1 = .bool b ∧ h.get? a = some oa ∧ a ≠ it ∧ S < a
section
variable {prog : Program} {w : World} {A : Around} {E : Value → Shared → Prop} {s : Shared} {it d S : Addr} {i ep : Nat} {es : Array DictEntry} {f0 f1 ok ov : Value}
theorem ni_item {Q : Option Value → Shared → Prop} (hit : s.heap.get? it = some (iitO d i es.size ep f0 f1 ok ov)) (hd : EAt s.heap d es ep) (hi : i < es.size) (hown : Own2 s.heap it S f0 f1) (hSl : S < s.heap.objs.size)
    (hQ : ∀ h' g0 g1 ok' ov', h'.get? it = some (iitO d (i + 1) es.size ep g0 g1 ok' ov') → Own2 h' it S g0 g1 → h'.get? s.heap.objs.size = some (tup2O es[i].key es[i].val) → h'.objs.size = s.heap.objs.size + 1 →
      (∀ b o, b ≠ it → s.heap.get? b = some o → h'.get? b = some o) → Q (some (.ref s.heap.objs.size)) { s with heap := h' }) :
    wpAny (model prog w) A (pyNext (.ref it)) Q E s := by
  obtain ⟨hp, g, dr, tk, os⟩ := s
  obtain ⟨od, hod, hdd⟩ := hd.at_
  have hT : Shared.TypeIs ⟨hp, g, dr, tk, os⟩ (.ref it) "dict_itemiterator" := ⟨_, hit, rfl⟩
  have own : Builtin.Dict_items.ownsTuple "dict_itemiterator" = true := by decide
  unfold pyNext
  refine wpAny_bind (wpAny_attempt (wpAny_callSpecial?_slot (name := Str.ofString "__next__") hT F.slot_dict_itemiterator_next
    (wpAny_call_entry F.slot_dict_itemiterator_next hT F.entry_dict_itemiterator_next ?_ (F.args_dict_itemiterator_next_1 _))))
  refine wpAny_bind (wpAny_pure (wpAny_bind (wpAny_bind ?_)))
  refine wpAny_bind (wpAny_typeNameOfWhole_itemiter hT (wpAny_pure (wpAny_bind (wpAny_fieldsOf hit rfl ?_))))
  simp only [own, if_true]
  show wpAny _ _ (if (Value.ref d == Value.none) = true then _ else _) _ _ _
  rw [if_neg (show ¬ ((Value.ref d == Value.none) = true) from Bool.false_ne_true)]
  refine wpAny_bind (wpAny_pure (wpAny_bind (wpAny_dictEntries hod hdd ?_)))
  rw [if_neg (by simp)]
  refine wpAny_bind (wpAny_pure (wpAny_bind (wpAny_dictEpoch hod hdd ?_)))
  rw [if_neg (by simp)]
  refine wpAny_pure ?_
  simp only [show ¬ ((i : Int) < 0) from by omega, if_false, Int.toNat_natCast, Array.getElem?_eq_getElem hi]
  refine wpAny_bind (wpAny_bind (wpAny_typeNameOfWhole_itemiter hT (wpAny_pure (wpAny_bind (wpAny_isOneOf_itemiter hT ?_)))))
  show wpAny _ _ (setField (.ref it) 3 (rawInt ((i : Int) + 1)) >>= _) _ _ _
  refine wpAny_bind (wpAny_setField_rec hit (by simp) fun h₁ he₁ hs₁ => ?_)
  replace hs₁ : Heap.SameBut it hp h₁ := hs₁
  replace he₁ : h₁.get? it = some (iitO d (i + 1) es.size ep f0 f1 ok ov) := by
    have e : ((i + 1 : Nat) : Int) = (i : Int) + 1 := by omega
    rw [he₁]; simp [rawInt, iitO]
  have hT₁ : Shared.TypeIs ⟨h₁, g, dr, tk, os⟩ (.ref it) "dict_itemiterator" := ⟨_, he₁, rfl⟩
  refine wpAny_bind (wpAny_holding (wpAny_bind (wpAny_isOneOf_itemiter hT₁ (wpAny_bind (wpAny_isOneOf_itemiter hT₁ ?_)))))
  show wpAny _ _ (Builtin.Dict_items.pairFromOwner (.ref it) 6 es[i].key es[i].val) _ _ ⟨h₁, g, dr, tk, os⟩
  unfold Builtin.Dict_items.pairFromOwner
  refine wpAny_bind (wpAny_newTuple ?_)
  have he₂ : (h₁.push (tup2O es[i].key es[i].val)).get? it = some (iitO d (i + 1) es.size ep f0 f1 ok ov) := Heap.get?_push_of_some _ he₁
  have hz₁ : h₁.objs.size = hp.objs.size := hs₁.1
  have hil : it < hp.objs.size := Heap.lt_size hit
  have ht₂ : (h₁.push (tup2O es[i].key es[i].val)).get? hp.objs.size = some (tup2O es[i].key es[i].val) := by rw [← hz₁]; exact Heap.get?_push_size _ rfl
  have hz₂ : (h₁.push (tup2O es[i].key es[i].val)).objs.size = hp.objs.size + 1 := by rw [Heap.size_push, hz₁]
  have hk₂ : ∀ b o, b ≠ it → hp.get? b = some o → (h₁.push (tup2O es[i].key es[i].val)).get? b = some o := fun b o hb e => Heap.get?_push_of_some _ (hs₁.extBut b o hb e)
  show wpAny _ _ (Builtin.Dict_items.ownedTupleIsFree (.ref it) >>= _) _ _ ⟨h₁.push (tup2O es[i].key es[i].val), g, dr, tk, os⟩
  rw [hz₁]
  generalize h₁.push (tup2O es[i].key es[i].val) = h₂ at *
  clear he₁ hs₁ hT₁ hz₁ h₁
  have ne : hp.objs.size ≠ it := Nat.ne_of_gt hil
  refine wpAny_bind ?_
  unfold Builtin.Dict_items.ownedTupleIsFree
  rcases hown with ⟨rfl, rfl⟩ | ⟨a, oa, b, rfl, rfl, ha, hai, hSa⟩
  · refine wpAny_bind (wpAny_field he₂ rfl (x := .none) rfl (wpAny_pure ?_))
    simp only [if_true]
    refine wpAny_bind (wpAny_field he₂ rfl (x := ok) rfl (wpAny_bind (wpAny_field he₂ rfl (x := ov) rfl ?_)))
    refine wpAny_bind (wpAny_setField_rec he₂ (by simp) fun h₃ he₃ hs₃ => ?_)
    replace hs₃ : Heap.SameBut it h₂ h₃ := hs₃
    replace he₃ : h₃.get? it = some (iitO d (i + 1) es.size ep .none (.bool false) es[i].key ov) := he₃
    refine wpAny_bind (wpAny_setField_rec he₃ (by simp) fun h₄ he₄ hs₄ => ?_)
    replace hs₄ : Heap.SameBut it h₃ h₄ := hs₄
    replace he₄ : h₄.get? it = some (iitO d (i + 1) es.size ep .none (.bool false) es[i].key es[i].val) := he₄
    refine wpAny_bind (wpAny_setField_rec he₄ (by simp) fun h₅ he₅ hs₅ => ?_)
    replace hs₅ : Heap.SameBut it h₄ h₅ := hs₅
    replace he₅ : h₅.get? it = some (iitO d (i + 1) es.size ep (rawInt hp.objs.size) (.bool false) es[i].key es[i].val) := he₅
    refine wpAny_bind (wpAny_setField_rec he₅ (by simp) fun h₆ he₆ hs₆ => ?_)
    replace hs₆ : Heap.SameBut it h₅ h₆ := hs₆
    have all : ∀ b o, b ≠ it → h₂.get? b = some o → h₆.get? b = some o := fun b o hb e => hs₆.extBut b o hb (hs₅.extBut b o hb (hs₄.extBut b o hb (hs₃.extBut b o hb e)))
    refine wpAny_bind (wpAny_letGo (wpAny_pure (wpAny_pure ⟨_, rfl, wpAny_pure (hQ h₆ _ _ _ _ he₆ (.inr ⟨_, _, _, rfl, rfl, all _ _ ne ht₂, ne, hSl⟩) (all _ _ ne ht₂) ?_ fun b o hb e => all b o hb (hk₂ b o hb e))⟩)))
    show h₆.objs.size = hp.objs.size + 1
    rw [hs₆.1, hs₅.1, hs₄.1, hs₃.1, hz₂]
  · have ha₂ := hk₂ a oa hai ha
    refine wpAny_bind (wpAny_field he₂ rfl (x := rawInt a) rfl ?_)
    show wpAny _ _ (loadIfAlive ((a : Int).toNat) >>= _) _ _ _
    rw [Int.toNat_natCast]
    refine wpAny_bind (kdx_alive ha₂ ?_)
    simp only [Option.isNone_some, Bool.false_eq_true, if_false]
    refine wpAny_bind (wpAny_field he₂ rfl (x := .bool b) rfl ?_)
    have fin : ∀ h₃ : Heap, h₃.get? it = some (iitO d (i + 1) es.size ep (rawInt a) (.bool true) ok ov) → Heap.SameBut it h₂ h₃ → Q (some (.ref hp.objs.size)) ⟨h₃, g, dr, tk, os⟩ := fun h₃ he₃ hs₃ =>
      hQ h₃ _ _ _ _ he₃ (.inr ⟨a, oa, true, rfl, rfl, hs₃.extBut _ _ hai ha₂, hai, hSa⟩) (hs₃.extBut _ _ ne ht₂) (by show h₃.objs.size = hp.objs.size + 1; rw [hs₃.1, hz₂]) fun b o hb e => hs₃.extBut b o hb (hk₂ b o hb e)
    cases b with
    | true =>
      rw [if_neg (show ¬ ((Value.bool true != Value.bool true) = true) from Bool.false_ne_true)]
      refine wpAny_pure ?_
      simp only [Bool.false_eq_true, if_false]
      exact wpAny_pure (wpAny_pure ⟨_, rfl, wpAny_pure (fin h₂ he₂ (Heap.SameBut.refl _ _))⟩)
    | false =>
      rw [if_pos (show (Value.bool false != Value.bool true) = true from rfl)]
      refine wpAny_bind (wpAny_setField_rec he₂ (by simp) fun h₃ he₃ hs₃ => ?_)
      replace hs₃ : Heap.SameBut it h₂ h₃ := hs₃
      refine wpAny_pure ?_
      simp only [Bool.false_eq_true, if_false]
      exact wpAny_pure (wpAny_pure ⟨_, rfl, wpAny_pure (fin h₃ he₃ hs₃)⟩)
theorem ni_end {Q : Option Value → Shared → Prop} (hh : A.handled = none) (hit : s.heap.get? it = some (iitO d i es.size ep f0 f1 ok ov)) (hd : EAt s.heap d es ep) (hi : es.size ≤ i)
    (hQ : ∀ h', Heap.ExtBut it s.heap h' → Q none { s with heap := h' }) : wpAny (model prog w) A (pyNext (.ref it)) Q E s := by
  obtain ⟨od, hod, hdd⟩ := hd.at_
  have hT : s.TypeIs (.ref it) "dict_itemiterator" := ⟨_, hit, rfl⟩
  have own : Builtin.Dict_items.ownsTuple "dict_itemiterator" = true := by decide
  unfold pyNext
  refine wpAny_bind (wpAny_attempt (wpAny_callSpecial?_slot (name := Str.ofString "__next__") hT F.slot_dict_itemiterator_next
    (wpAny_call_entry F.slot_dict_itemiterator_next hT F.entry_dict_itemiterator_next ?_ (F.args_dict_itemiterator_next_1 _))))
  refine wpAny_bind (wpAny_pure (wpAny_bind (wpAny_bind ?_)))
  refine wpAny_bind (wpAny_typeNameOfWhole_itemiter hT (wpAny_pure (wpAny_bind (wpAny_fieldsOf hit rfl ?_))))
  simp only [own, if_true]
  show wpAny _ _ (if (Value.ref d == Value.none) = true then _ else _) _ _ _
  rw [if_neg (show ¬ ((Value.ref d == Value.none) = true) from Bool.false_ne_true)]
  refine wpAny_bind (wpAny_pure (wpAny_bind (wpAny_dictEntries hod hdd ?_)))
  rw [if_neg (by simp)]
  refine wpAny_bind (wpAny_pure (wpAny_bind (wpAny_dictEpoch hod hdd ?_)))
  rw [if_neg (by simp)]
  refine wpAny_pure ?_
  simp only [show ¬ ((i : Int) < 0) from by omega, if_false, Int.toNat_natCast, Array.getElem?_eq_none hi]
  refine wpAny_bind (wpAny_bind (wpAny_typeNameOfWhole_itemiter hT (wpAny_pure ?_)))
  show wpAny _ _ (setField (.ref it) 2 .none >>= _) _ _ s
  refine wpAny_bind (wpAny_setField hit rfl (by simp) ?_)
  show wpAny _ _ (newExc (.type "StopIteration") [] >>= _) _ _ _
  simp only [newExc, newTuple]
  refine wpAny_bind (wpAny_bind (wpAny_newObj_type ?_ (by size_fits)))
  refine wpAny_bind (m := firstArgMember _ _) (wpAny_of_eq (a := Value.none) (by first | rfl | (simp only [firstArgMember]; rfl)) ?_)
  refine wpAny_newObj_type ?_ (by size_fits)
  simp only [raiseNew]
  refine wpAny_bind (wpAny_handled ?_)
  rw [show A.in1.handled = none from hh]
  refine wpAny_bind (wpAny_pure (wpAny_throw ?_))
  refine wpAny_bind (wpAny_isInstance (T := "StopIteration") (b := true) ⟨_, Heap.get?_push_size _ rfl, rfl⟩ isSubtype_stop ?_)
  exact wpAny_pure (hQ _ (((Heap.SameBut.update ..).extBut.push _).push _))
end
end Mine
end
section
open PySem PySem.W PyProof.Rows PySem.Calls PySem.Spec Builtin
set_option Elab.async false
set_option maxRecDepth 100000
namespace Mine
/-- the tuples made so far, one an entry -/
structure TupG (es : Array DictEntry) (lo : Addr) (h : Heap) (as : List Addr) : Prop where
  rise : as.Pairwise (· < ·)
  above : ∀ a ∈ as, lo < a
  pairs : ∀ (j : Nat) (a : Addr), as[j]? = some a → ∃ e, es[j]? = some e ∧ h.get? a = some (tup2O e.key e.val)
theorem TupG.there {es : Array DictEntry} {lo : Addr} {h : Heap} {as : List Addr} (g : TupG es lo h as) {a : Addr} (ha : a ∈ as) : a < h.objs.size := by
  obtain ⟨j, hj⟩ := List.mem_iff_getElem?.mp ha
  obtain ⟨_, _, e⟩ := g.pairs j a hj
  exact Heap.lt_size e
theorem TupG.low {es : Array DictEntry} {lo lo' : Addr} {h : Heap} {as : List Addr} (g : TupG es lo h as) (hl : lo' ≤ lo) : TupG es lo' h as := ⟨g.rise, fun a ha => Nat.lt_of_le_of_lt hl (g.above a ha), g.pairs⟩
theorem TupG.keep {es : Array DictEntry} {lo : Addr} {h h' : Heap} {as : List Addr} (g : TupG es lo h as) (hk : ∀ b o, lo < b → h.get? b = some o → h'.get? b = some o) : TupG es lo h' as :=
  ⟨g.rise, g.above, fun j a hj => let ⟨e, e1, e2⟩ := g.pairs j a hj; ⟨e, e1, hk a _ (g.above a (List.mem_of_getElem? hj)) e2⟩⟩
theorem TupG.snoc {es : Array DictEntry} {lo : Addr} {h : Heap} {as : List Addr} {e : DictEntry} {b : Addr} (g : TupG es lo h as) (hlt : ∀ a ∈ as, a < b) (hlo : lo < b) (he : es[as.length]? = some e) (hb : h.get? b = some (tup2O e.key e.val)) : TupG es lo h (as ++ [b]) := by
  refine ⟨List.pairwise_append.mpr ⟨g.rise, List.pairwise_singleton _ _, fun a ha c hc => by rw [List.mem_singleton.mp hc]; exact hlt a ha⟩, fun a ha => ?_, fun j a hj => ?_⟩
  · rcases List.mem_append.mp ha with ha | ha
    · exact g.above a ha
    · rw [List.mem_singleton.mp ha]; exact hlo
  · rcases Nat.lt_trichotomy j as.length with h1 | h1 | h1
    · rw [List.getElem?_append_left h1] at hj; exact g.pairs j a hj
    · subst h1
      have : b = a := by simpa using hj
      subst this
      exact ⟨e, he, hb⟩
    · rw [List.getElem?_eq_none (by rw [List.length_append, List.length_singleton]; omega)] at hj; cases hj
section
variable {prog : Program} {w : World} {A : Around} {E : Value → Shared → Prop} {s : Shared} {d : Addr} {ep : Nat} {es : Array DictEntry} {R : Result → Shared → Prop}
noncomputable abbrev lstO (acc : Array Value) (c : Nat) : Obj := { cls := .type "list", dict := none, data := .seq acc c, slots := #[] }
theorem ni_loop {S I : Addr} (hh : A.handled = none) (hSI : S < I) (hSd : d ≠ S) (hId : d ≠ I) (hn : es.size ≤ sizeLine) (res : Value) {h₁ : Heap}
    (hR : ∀ h' tk acc c as, (∀ b o, b ≠ S → b ≠ I → h₁.get? b = some o → h'.get? b = some o) → h'.get? S = some (lstO acc c) → as.length = es.size → TupG es I h' as → acc.toList = as.map Value.ref → R (.ok (.ret res)) { s with heap := h', toks := tk }) :
    ∀ (k i : Nat) (h : Heap) (tk c : Nat) (acc : Array Value) (as : List Addr) (f0 f1 ok ov : Value), es.size - i = k → i ≤ es.size → h.get? I = some (iitO d i es.size ep f0 f1 ok ov) → Own2 h I S f0 f1 → EAt h d es ep →
      (∀ b o, b ≠ S → b ≠ I → h₁.get? b = some o → h.get? b = some o) → h.get? S = some (lstO acc c) → acc.toList = as.map Value.ref → as.length = i → TupG es I h as →
      codeAny (model prog w) A (.builtin "list.extend.loop" ⟨[.ref S, .ref I, res], []⟩) R { s with heap := h, toks := tk } := by
  have hne : S ≠ I := Nat.ne_of_lt hSI
  intro k
  induction k with
  | zero =>
    intro i h tk c acc as f0 f1 ok ov hk hi hit hown hD hkeep hS hacc hal hG
    have hin : es.size ≤ i := by omega
    refine codeAny_builtin PySem.F.entry_extend_loop ?_
    rw [Around.under_plainId PySem.F.plain_extend_loop _]
    show wpAny _ A.in1 (pyNext (.ref I) >>= _) _ _ _
    refine wpAny_bind (ni_end (s := { s with heap := h, toks := tk }) (A := A.in1) hh hit hD hin fun h' he => ?_)
    exact wpAny_pure (hR h' tk acc c as (fun b o h1 h2 e => he b o h2 (hkeep b o h1 h2 e)) (he S _ hne hS) (by omega) (hG.keep fun b o hb e => he b o (Nat.ne_of_gt hb) e) hacc)
  | succ k ih =>
    intro i h tk c acc as f0 f1 ok ov hk hi hit hown hD hkeep hS hacc hal hG
    have hlt : i < es.size := by omega
    have hsz : acc.size = i := by rw [← Array.length_toList, hacc, List.length_map, hal]
    have hSl : S < h.objs.size := Heap.lt_size hS
    refine codeAny_builtin PySem.F.entry_extend_loop ?_
    rw [Around.under_plainId PySem.F.plain_extend_loop _]
    show wpAny _ A.in1 (pyNext (.ref I) >>= _) _ _ _
    refine wpAny_bind (ni_item (s := { s with heap := h, toks := tk }) (S := S) hit hD hlt hown hSl fun h' g0 g1 ok' ov' hit' hown' ht hz hkp => ?_)
    dsimp only at ht hz hkp hown' ⊢
    have hS' := hkp S _ hne hS
    have up : ∀ b o, b ≠ S → h'.get? b = some o → (h'.update S (Obj.mapSeq (·.push (Value.ref h.objs.size)))).get? b = some o := fun b o hb e => (Heap.get?_update_other _ _ (Ne.symm hb)).trans e
    show wpAny _ A.in1 (updateSeq S (·.push (Value.ref h.objs.size)) >>= _) _ _ _
    refine wpAny_bind ?_
    refine wpAny_updateSeq hS' rfl (wpAny_pure ⟨plainId_quiet PySem.F.plain_extend_loop _, ih (i + 1) _ tk _ (acc.push (Value.ref h.objs.size)) (as ++ [h.objs.size]) g0 g1 ok' ov' (by omega) hlt (up _ _ (Ne.symm hne) hit') ?_ (hD.keep fun o e => up d o hSd (hkp d o hId e))
      (fun b o h1 h2 e => up b o h1 (hkp b o h2 (hkeep b o h1 h2 e))) (Heap.get?_update_self _ hS' rfl) (by rw [Array.toList_push, hacc, List.map_append]; rfl) (by rw [List.length_append, hal]; rfl) ?_⟩) (by rw [hsz]; omega) (by show (acc.push (Value.ref h.objs.size)).size ≤ sizeLine + 1; rw [Array.size_push, hsz]; omega)
    · rcases hown' with h1 | ⟨a, oa, b, e1, e2, e3, e4, e5⟩
      · exact .inl h1
      · exact .inr ⟨a, oa, b, e1, e2, up a _ (Nat.ne_of_gt e5) e3, e4, e5⟩
    · refine (hG.keep fun b o hb e => up b o (Nat.ne_of_gt (Nat.lt_trans hSI hb)) (hkp b o (Nat.ne_of_gt hb) e)).snoc (e := es[i]) (fun a ha => hG.there ha) (Heap.lt_size hit) (by rw [hal]; exact Array.getElem?_eq_getElem hlt) (up _ _ (Nat.ne_of_gt hSl) ht)
/-- the view's iterator -/
theorem ni_iter {v : Addr} {Q : Value → Shared → Prop} (hv : s.heap.IsItemsView v d) (hD : EAt s.heap d es ep) (hQ : Q (.ref s.heap.objs.size) { s with heap := s.heap.push (iitO d 0 es.size ep .none (.bool false) .none .none) }) :
    wpAny (model prog w) A (pyIter (.ref v)) Q E s := by
  obtain ⟨ov, hov, hcv, hdv⟩ := id hv
  obtain ⟨o, ho, hdat⟩ := hD.at_
  refine wpAny_pyIter_slot hv.typeIs F.slot_dict_items_iter (wpAny_call_entry F.slot_dict_items_iter hv.typeIs F.entry_dict_items_iter ?_ (F.args_dict_items_iter_1 _))
  unfold Builtin.«dict_items.__iter__»
  refine wpAny_bind (wpAny_pure (wpAny_bind ?_))
  unfold Builtin.Dict_items.dictOf
  refine wpAny_bind (wpAny_field hov hdv (x := .ref d) rfl (wpAny_pure (wpAny_bind ?_)))
  unfold Builtin.Dict_items.newIterator
  refine wpAny_bind (wpAny_dictEntries ho hdat (wpAny_bind (wpAny_dictEpoch ho hdat ?_)))
  have own : Builtin.Dict_items.ownsTuple "dict_itemiterator" = true := by decide
  simp only [own, if_true]
  refine wpAny_newObj_type (wpAny_pure ⟨_, rfl, "dict_itemiterator", _, ⟨_, Heap.get?_push_size _ rfl, rfl⟩, F.slot_dict_itemiterator_next.lookup, ?_⟩)
    (by simp only [sizeOk, Builtin.Dict_items.ownedTupleFields, List.size_toArray, List.length_append, List.length_cons, List.length_nil, sizeLine_eq]; omega)
  simpa [rawInt, iitO, Builtin.Dict_items.ownedTupleFields] using hQ
end
end Mine
end
section
open PySem PySem.W PyProof.Rows PySem.Calls PySem.Spec Builtin
set_option Elab.async false
set_option maxRecDepth 100000
namespace Mine
noncomputable def tupsOf (as : List Addr) (es : Array DictEntry) : List (Addr × Obj) := (as.zip es.toList).map fun p => (p.1, tup2O p.2.key p.2.val)
noncomputable abbrev viewO (d : Addr) : Obj := { cls := .type "dict_items", data := .fields #[.ref d] }
section
variable {prog : Program} {w : World} {A : Around} {E : Value → Shared → Prop} {s : Shared} {d v : Addr} {ep : Nat} {es : Array DictEntry}
theorem view_extend {R : Result → Shared → Prop} (hh : A.handled = none) (hv : s.heap.IsItemsView v d) (hD : EAt s.heap d es ep) (hn : es.size ≤ sizeLine) (S : Addr) (hSv : S ≠ v) (hSd : d ≠ S) (res : Value) (c₀ : Nat) (hS : s.heap.get? S = some { cls := .type "list", data := .seq #[] c₀ })
    (hR : ∀ h' tk acc c as, (∀ b o, b ≠ S → s.heap.get? b = some o → h'.get? b = some o) → h'.get? S = some (lstO acc c) → as.length = es.size → TupG es s.heap.objs.size h' as → acc.toList = as.map Value.ref → R (.ok (.ret res)) { s with heap := h', toks := tk }) :
    wpAny (model prog w) A.in1 (Builtin.List.listExtendWith (.ref S) (.ref v) res)
      (fun fin s' => match fin with | .done f => R (.ok f) s' | .again c' => c'.quiet = true ∧ codeAny (model prog w) A c' R s') (fun e s' => R (.error e) s') s := by
  have hSI : S < s.heap.objs.size := Heap.lt_size hS
  have hdI : d < s.heap.objs.size := hD.lt
  have key : ∀ (h : Heap) (c₁ tk : Nat), (∀ b o, b ≠ S → (s.heap.push (iitO d 0 es.size ep .none (.bool false) .none .none)).get? b = some o → h.get? b = some o) →
      h.get? S = some { cls := .type "list", data := .seq #[] c₁ } → codeAny (model prog w) A (.builtin "list.extend.loop" ⟨[.ref S, .ref s.heap.objs.size, res], []⟩) R { s with heap := h, toks := tk } := by
    intro h c₁ tk hk hS₁
    have hI := hk s.heap.objs.size _ (Nat.ne_of_gt hSI) (Heap.get?_push_size _ rfl)
    exact ni_loop (s := s) (h₁ := s.heap) hh hSI hSd (Nat.ne_of_lt hdI) hn res (fun h' tk' acc c as hk' hS' hl hG hacc => hR h' tk' acc c as (fun b o hb e => hk' b o hb (Nat.ne_of_lt (Heap.lt_size e)) e) hS' hl hG hacc)
      es.size 0 h tk c₁ #[] [] .none (.bool false) .none .none (Nat.sub_zero _) (Nat.zero_le _) hI (.inl ⟨rfl, rfl⟩) (hD.keep fun o e => hk d o hSd (Heap.get?_push_of_some _ e)) (fun b o hb _ e => hk b o hb (Heap.get?_push_of_some _ e)) hS₁ rfl rfl
      ⟨List.Pairwise.nil, (fun _ ha => nomatch ha), (fun j a hj => by simp at hj)⟩
  unfold Builtin.List.listExtendWith
  refine wpAny_bind (wpAny_typeOf (T := "dict_items") hv.typeIs ?_)
  have h1 : Builtin.List.listSameRef (.ref S) (.ref v) = false := by simp [Builtin.List.listSameRef, hSv]
  have h2 : (Value.type "dict_items" == Value.type "list") = false := by decide
  have h3 : (Value.type "dict_items" == Value.type "tuple") = false := by decide
  simp only [h1, h2, h3, Bool.or_false, Bool.false_eq_true, if_false]
  refine wpAny_bind (ni_iter hv hD ?_)
  have hS₁ := Heap.get?_push_of_some (iitO d 0 es.size ep .none (.bool false) .none .none) hS
  refine wpAny_bind (wpAny_holding (kdx_hint (let ⟨o, ho, hc, _⟩ := hv; ⟨o, Heap.get?_push_of_some _ ho, hc⟩) ?_))
  refine wpAny_ite_split (fun _ => ?_) (fun _ => wpAny_pure ⟨plainId_quiet PySem.F.plain_extend_loop _, key _ c₀ _ (fun b o _ e => e) hS₁⟩)
  refine wpAny_bind (wpAny_rule (wpAny_bind ?_))
  show wpAny _ _ (updateSeq S (·.push .none) >>= fun _ => updateSeq S (·.pop)) _ _ _
  refine wpAny_bind (wpAny_updateSeq hS₁ rfl ?_)
  have hS₂ := Heap.get?_update_self (Obj.mapSeq (·.push Value.none)) hS₁ rfl
  refine wpAny_updateSeq (hz := by seq_fits) hS₂ rfl ?_
  have hS₃ := Heap.get?_update_self (Obj.mapSeq (·.pop)) hS₂ rfl
  exact wpAny_pure ⟨plainId_quiet PySem.F.plain_extend_loop _, key _ _ _ (fun b o hb e => (Heap.get?_update_other _ _ (Ne.symm hb)).trans ((Heap.get?_update_other _ _ (Ne.symm hb)).trans e)) hS₃⟩
theorem fresh_at {h₀ h : Heap} {L : Addr} {m : Str → Option Value} (F : Fr h₀ L h m) {x : Addr} (hx : h.objs.size ≤ x) : x ≠ L ∧ h₀.get? x = none :=
  ⟨Nat.ne_of_gt (Nat.lt_of_lt_of_le F.ns.lt hx), by
    cases e : h₀.get? x with
    | none => rfl
    | some o => exact absurd (Heap.lt_size (F.keep x o e)) (Nat.not_lt.mpr hx)⟩
/-- list(view): the pairs, each a new tuple -/
theorem view_list {Q : Value → Shared → Prop} {h₀ : Heap} {L : Addr} {m : Str → Option Value} {news : List (Addr × Obj)} {od : Obj} (hh : A.handled = none) (F : Fr h₀ L s.heap m) (N : News h₀ L s.heap news)
    (hv : (v, viewO d) ∈ news) (hd : (d, od) ∈ news) (hdat : od.data = .dict es ep) (hn : es.size ≤ sizeLine)
    (h : ∀ (D : Addr) c h' tk (as : List Addr), as.length = es.size → Fr h₀ L h' m → News h₀ L h' ((D, listOf (as.map Value.ref).toArray c) :: (tupsOf as es ++ news)) → (∀ q ∈ news, q.1 < D) → (∀ a ∈ as, D < a) → Q (.ref D) { s with heap := h', toks := tk }) :
    wpAny (model prog w) A (call (.type "list") [.ref v]) Q E s := by
  have hvw : s.heap.IsItemsView v d := ⟨_, (N _ hv).1, rfl, rfl⟩
  have hD : EAt s.heap d es ep := ⟨od, (N _ hd).1, hdat⟩
  refine callType_codes (Q₁ := fun obj s₁ => obj = .ref s.heap.objs.size ∧ s₁ = { s with heap := s.heap.push { cls := .type "list", data := .seq #[] } }) PySem.F.called_list (PySem.F.typeCall_list_1 _) PySem.F.entry_list_init
    (code_list_new _ ⟨rfl, rfl⟩) fun obj s₁ h₁ => ?_
  obtain ⟨rfl, rfl⟩ := h₁
  have hS : (s.heap.push { cls := .type "list", data := .seq #[] }).get? s.heap.objs.size = some { cls := .type "list", data := .seq #[] } := Heap.get?_push_size _ rfl
  refine ⟨⟨_, hS, rfl⟩, PySem.F.args_list_init_2 _ _, ?_⟩
  show wpAny _ _ (do let old ← Builtin.List.listItems (.ref s.heap.objs.size); Builtin.List.listUpdate (.ref s.heap.objs.size) (fun _ => #[]); letGo old.toList.reverse; Builtin.List.listExtendWith (.ref s.heap.objs.size) (.ref v) .none) _ _ _
  refine wpAny_bind ?_
  unfold Builtin.List.listItems
  refine wpAny_bind (wpAny_seqItems hS rfl (wpAny_pure ?_))
  show wpAny _ _ (updateSeq s.heap.objs.size (fun _ => #[]) >>= fun _ => letGo (#[] : Array Value).toList.reverse >>= fun _ => Builtin.List.listExtendWith (.ref s.heap.objs.size) (.ref v) .none) _ _ _
  refine wpAny_bind (wpAny_updateSeq hS rfl ?_)
  have hS₂ := Heap.get?_update_self (Obj.mapSeq (fun _ => (#[] : Array Value))) hS rfl
  have oth : ∀ b o', s.heap.get? b = some o' → ((s.heap.push { cls := .type "list", data := .seq #[] }).update s.heap.objs.size (Obj.mapSeq (fun _ => (#[] : Array Value)))).get? b = some o' :=
    fun b o' e => (Heap.get?_update_other _ _ (Nat.ne_of_gt (Heap.lt_size e))).trans (Heap.get?_push_of_some _ e)
  refine wpAny_bind (wpAny_letGo ?_)
  refine view_extend (A := A.in1) (R := wants (fun r s₂ => r = Value.none ∧ Q (.ref s.heap.objs.size) s₂) E) (es := es) (ep := ep) (d := d) (s := { s with heap := (s.heap.push { cls := .type "list", data := .seq #[] }).update s.heap.objs.size (Obj.mapSeq (fun _ => (#[] : Array Value))) }) hh (let ⟨o, ho, x⟩ := hvw; ⟨o, oth _ o ho, x⟩) (hD.keep fun o e => oth d o e) hn _
    (Nat.ne_of_gt (Heap.lt_size (N _ hv).1)) (Nat.ne_of_lt hD.lt) .none _ hS₂ fun h' tk acc c as hk hS' hl hG hacc => ?_
  have hk2 : ∀ b o', s.heap.get? b = some o' → h'.get? b = some o' := fun b o' e => hk b o' (Nat.ne_of_lt (Heap.lt_size e)) (oth b o' e)
  have hG2 := hG.low (lo' := s.heap.objs.size) (Nat.le_of_lt (Heap.lt_size hS₂))
  refine ⟨rfl, h _ c h' tk as hl (F.keeps hk2) (fun q hq => ?_) (fun q hq => Heap.lt_size (N q hq).1) hG2.above⟩
  have ea : acc = (as.map Value.ref).toArray := by rw [← hacc, Array.toArray_toList]
  rcases List.mem_cons.mp hq with rfl | hq
  · exact ⟨by rw [← ea]; exact hS', fresh_at F (Nat.le_refl _)⟩
  · rcases List.mem_append.mp hq with hq | hq
    · obtain ⟨⟨a, e⟩, hp, rfl⟩ := List.mem_map.mp hq
      obtain ⟨j, hj⟩ := List.mem_iff_getElem?.mp hp
      rw [List.getElem?_zip_eq_some] at hj
      obtain ⟨e2, f1, f2⟩ := hG2.pairs j a hj.1
      have : e2 = e := by
        have h9 := hj.2
        rw [Array.getElem?_toList] at h9
        rw [h9] at f1; exact (Option.some.inj f1).symm
      subst this
      exact ⟨f2, fresh_at F (Nat.le_of_lt (hG2.above a (List.mem_of_getElem? hj.1)))⟩
    · exact ⟨hk2 _ _ (N q hq).1, (N q hq).2⟩
end
section
variable {w : World} {A : Around} {E : Value → Shared → Prop} {h : Heap} {g : Array GenState} {d : Drawn} {t : Nat} {os : OsState} {x : Addr} {o : Obj} {es : Array DictEntry} {ep : Nat}
set_option maxHeartbeats 4000000 in
theorem im_find : findIn (Mine.hd.heap_1 w.params) (.ref 72) "items" = some (some (.builtin "dict.items")) := by k_is
theorem im_type : typeOf (.builtin "dict.items") = pure (.type "method_descriptor") := by show builtinType _ = _; rw [builtinType_eq_fast]; kernel_rfl
set_option maxHeartbeats 4000000 in
theorem im_call {Q : Value → Shared → Prop} (I : FI w h x o) (hd : o.data = .dict es ep) (hq : Q (.ref h.objs.size) ⟨h.push (viewO x), g, d, t, os⟩) :
    wpAny (MM w) A (call (.builtin "dict.items") [.ref x]) Q E ⟨h, g, d, t, os⟩ := by
  refine wpAny_call ?_
  obtain ⟨Y, sq, hx, hc, lo, bm⟩ := I
  have ty := Y.ty hx hc
  obtain ⟨-, typ, call, dct, dfd, own, nod, mro, init, gi, si, mi, it⟩ := Y
  have inst : Looks (MM w) h (isInstance (.ref x) (.type "dict")) true := ty.andThen dct
  have ino : Looks (MM w) h (isInstance (.ref x) (.type "collections.OrderedDict")) false := ty.andThen nod
  refine codeAny_call_builtin im_plain PySem.F.entry_dict_items (kfo_check (M := MM w) (i := "dict.items") (owner := "dict") (n := "items") (self := .ref x) (rest := []) (kw := []) im_kind im_split inst (PySem.F.args_dict_items_1 _) ?_)
  obtain ⟨c, od, dt, sl⟩ := o
  cases hc
  cases hd
  unfold Builtin.«dict.items» Builtin.Dict.showsAll
  repeat ((fail_if_success (with_reducible refine wpAny_bind (m := newFields _ _) ?_)); (first | simp only [lo, Bool.false_eq_true, if_false] | lk))
  exact wpAny_bind (wpAny_newObj_type (wpAny_pure hq))
end
end Mine
end
section
open PySem PySem.W PyProof.Rows PySem.Calls PySem.Spec
set_option Elab.async false
namespace Mine
section
variable {α β : Type}
noncomputable def aget (T : List (Str × α)) (k : Str) : Option α := (T.find? fun p => p.1 = k).map (·.2)
noncomputable def aput (T : List (Str × α)) (k : Str) (v : α) : List (Str × α) := if T.any (fun p => p.1 = k) then T.map (fun p => if p.1 = k then (p.1, v) else p) else T ++ [(k, v)]
theorem valueAt_eq (kvs : List (Str × Value)) (k : Str) : valueAt kvs k = aget kvs k := rfl
theorem stored_eq (kvs : List (Str × Value)) (k : Str) (v : Value) : stored kvs k v = aput kvs k v := rfl
/-- two lists of pairs: the same keys, the values of V -/
inductive KV (V : α → β → Prop) : List (Str × α) → List (Str × β) → Prop
  | nil : KV V [] []
  | cons {k a b l r} : V a b → KV V l r → KV V ((k, a) :: l) ((k, b) :: r)
variable {V V' : α → β → Prop} {l : List (Str × α)} {r : List (Str × β)}
theorem KV.mono (h : KV V l r) (hv : ∀ a b, V a b → V' a b) : KV V' l r := by
  induction h with
  | nil => exact .nil
  | cons h1 _ ih => exact .cons (hv _ _ h1) ih
theorem KV.length (h : KV V l r) : l.length = r.length := by
  induction h with
  | nil => rfl
  | cons _ _ ih => simp [ih]
theorem KV.keys (h : KV V l r) : l.map (·.1) = r.map (·.1) := by
  induction h with
  | nil => rfl
  | cons _ _ ih => simp [ih]
theorem KV.get (h : KV V l r) (k : Str) : (aget l k = none ∧ aget r k = none) ∨ ∃ a b, aget l k = some a ∧ aget r k = some b ∧ V a b := by
  induction h with
  | nil => exact .inl ⟨rfl, rfl⟩
  | @cons k' a b l r h1 _ ih =>
    by_cases e : k' = k
    · exact .inr ⟨a, b, by simp [aget, e], by simp [aget, e], h1⟩
    · simpa [aget, List.find?_cons, e] using ih
theorem KV.any (h : KV V l r) (k : Str) : (l.any fun p => decide (p.1 = k)) = r.any fun p => decide (p.1 = k) := by
  induction h with
  | nil => rfl
  | cons _ _ ih => simp only [List.any_cons, ih]
theorem KV.map (h : KV V l r) {k : Str} {a : α} {b : β} (hv : V a b) : KV V (l.map fun p => if p.1 = k then (p.1, a) else p) (r.map fun p => if p.1 = k then (p.1, b) else p) := by
  induction h with
  | nil => exact .nil
  | @cons k' a' b' l r h1 _ ih =>
    simp only [List.map_cons]
    by_cases e : k' = k
    · simp only [e, if_true]; exact .cons hv ih
    · simp only [e, if_false]; exact .cons h1 ih
theorem KV.app {l' : List (Str × α)} {r' : List (Str × β)} (h : KV V l r) (h' : KV V l' r') : KV V (l ++ l') (r ++ r') := by
  induction h with
  | nil => exact h'
  | cons h1 _ ih => exact .cons h1 ih
theorem KV.put (h : KV V l r) {k : Str} {a : α} {b : β} (hv : V a b) : KV V (aput l k a) (aput r k b) := by
  unfold aput
  rw [h.any k]
  split
  · exact h.map hv
  · exact h.app (.cons hv .nil)
theorem aget_none_any {T : List (Str × α)} {k : Str} (h : aget T k = none) : (T.any fun p => decide (p.1 = k)) = false := by
  unfold aget at h
  rw [Option.map_eq_none_iff, List.find?_eq_none] at h
  rw [List.any_eq_false]
  intro p hp
  simpa using h p hp
theorem aget_some_any {T : List (Str × α)} {k : Str} {v : α} (h : aget T k = some v) : (T.any fun p => decide (p.1 = k)) = true := by
  unfold aget at h
  rw [Option.map_eq_some_iff] at h
  obtain ⟨p, hp, _⟩ := h
  have h2 := List.find?_some hp
  exact List.any_eq_true.mpr ⟨p, List.mem_of_find?_eq_some hp, h2⟩
theorem aput_new {T : List (Str × α)} {k : Str} {v : α} (h : aget T k = none) : aput T k v = T ++ [(k, v)] := by
  unfold aput; rw [if_neg (by rw [aget_none_any h]; decide)]
theorem aput_len (T : List (Str × α)) (k : Str) (v : α) : (aput T k v).length ≤ T.length + 1 := by
  unfold aput; split <;> simp
theorem aput_aput (T : List (Str × α)) (k : Str) (v v' : α) : aput (aput T k v) k v' = aput T k v' := by
  unfold aput
  by_cases h : (T.any fun p => decide (p.1 = k)) = true
  · rw [if_pos h, if_pos h]
    have : (List.map (fun p => if p.1 = k then (p.1, v) else p) T).any (fun p => decide (p.1 = k)) = true := by
      rw [List.any_eq_true] at h ⊢
      obtain ⟨p, hp, e⟩ := h
      refine ⟨(p.1, v), List.mem_map.mpr ⟨p, hp, ?_⟩, e⟩
      rw [if_pos (of_decide_eq_true e)]
    rw [if_pos this, List.map_map]
    congr 1
    funext p
    by_cases e : p.1 = k <;> simp [e]
  · rw [if_neg h, if_neg h]
    have : (T ++ [(k, v)]).any (fun p => decide (p.1 = k)) = true := by simp
    rw [if_pos this, List.map_append]
    congr 1
    · conv => rhs; rw [← List.map_id T]
      refine List.map_congr_left fun p hp => ?_
      rw [Bool.not_eq_true, List.any_eq_false] at h
      have := h p hp
      rw [if_neg (by simpa using this)]; rfl
    · simp
end
/-- sums: a key's sum, grown -/
noncomputable def addT (T : List (Str × Int)) (k : Str) (s : Int) : List (Str × Int) := aput T k ((aget T k).getD 0 + s)
/-- lists: a key's list, grown; once frozen, no new key -/
noncomputable def addM (fz : Bool) (M : List (Str × List Str)) (k e : Str) : List (Str × List Str) :=
  match aget M k with
  | some l => aput M k (l ++ [e])
  | none => if fz then M else M ++ [(k, [e])]
abbrev IV (v : Value) (i : Int) : Prop := ∃ t, v = .int i t
abbrev LV (news : List (Addr × Obj)) (v : Value) (ss : List Str) : Prop := ∃ r vs c, v = .ref r ∧ (r, listOf vs.toArray c) ∈ news ∧ StrsAre vs ss
theorem KV.listSet {news news' : List (Addr × Obj)} {kvs : List (Str × Value)} {M : List (Str × List Str)} {k : Str} {r : Addr} {b : List Str} (h : KV (LV news) kvs M) (hk : (kvs.map (·.1)).Nodup) (hn : (kvs.map (·.2)).Nodup)
    (hv : aget kvs k = some (.ref r)) (hb : LV news' (.ref r) b) (hold : ∀ q ∈ news, q.1 ≠ r → q ∈ news') : KV (LV news') kvs (M.map fun p => if p.1 = k then (p.1, b) else p) := by
  have all : ∀ {kvs M}, KV (LV news) kvs M → (∀ p ∈ kvs, p.2 ≠ .ref r) → KV (LV news') kvs M := by
    intro kvs M h hne
    induction h with
    | nil => exact .nil
    | @cons k' a b' l r' h1 h2 ih =>
      refine .cons ?_ (ih fun p hp => hne p (.tail _ hp))
      obtain ⟨r2, vs, c, e, hm, hs⟩ := h1
      exact ⟨r2, vs, c, e, hold _ hm (fun e2 => hne _ (.head _) (by rw [e]; exact congrArg Value.ref e2)), hs⟩
  induction h with
  | nil => exact .nil
  | @cons k' a b' l r' h1 h2 ih =>
    rw [List.map_cons, List.nodup_cons] at hk hn
    simp only [List.map_cons]
    by_cases e : k' = k
    · subst e
      have ea : a = .ref r := by simpa [aget] using hv
      subst ea
      rw [if_pos rfl]
      have hid : (r'.map fun p => if p.1 = k' then (p.1, b) else p) = r' := by
        conv => rhs; rw [← List.map_id r']
        refine List.map_congr_left fun p hp => ?_
        have : p.1 ∈ l.map (·.1) := by rw [h2.keys]; exact List.mem_map.mpr ⟨p, hp, rfl⟩
        rw [if_neg (fun (e : p.1 = k') => hk.1 (by rw [← e]; exact this))]; rfl
      rw [hid]
      exact .cons hb (all h2 fun p hp e => hn.1 (List.mem_map.mpr ⟨p, hp, e⟩))
    · rw [if_neg e]
      have hv' : aget l k = some (.ref r) := by simpa [aget, List.find?_cons, e] using hv
      refine .cons ?_ (ih hk.2 hn.2 hv')
      obtain ⟨r2, vs, c, e1, hm, hs⟩ := h1
      refine ⟨r2, vs, c, e1, hold _ hm (fun e2 => hn.1 ?_), hs⟩
      have hmem : (.ref r) ∈ l.map (·.2) := by
        unfold aget at hv'
        rw [Option.map_eq_some_iff] at hv'
        obtain ⟨p, hp, e3⟩ := hv'
        exact List.mem_map.mpr ⟨p, List.mem_of_find?_eq_some hp, e3⟩
      dsimp only at e2
      rw [e1, e2]; exact hmem
end Mine
end
section
open PySem PySem.W PyProof.Rows PySem.Calls PySem.Spec
set_option Elab.async false
namespace Mine

set_option maxRecDepth 100000
theorem news_ne {h₀ h : Heap} {L : Addr} {news : List (Addr × Obj)} (N : News h₀ L h news) {a b : Addr} {o o' : Obj} (ha : (a, o) ∈ news) (hb : (b, o') ∈ news) (hne : o.data ≠ o'.data) : a ≠ b := fun e => by
  have e1 := (N _ ha).1; have e2 := (N _ hb).1
  dsimp only at e1 e2
  rw [e, e2] at e1
  cases e1
  exact hne rfl
theorem news_ne' {h₀ h : Heap} {L : Addr} {news : List (Addr × Obj)} (N : News h₀ L h news) {a b : Addr} {o o' : Obj} (ha : (a, o) ∈ news) (hb : (b, o') ∈ news) (hne : o ≠ o') : a ≠ b := fun e => by
  have e1 := (N _ ha).1; have e2 := (N _ hb).1
  dsimp only at e1 e2
  rw [e, e2] at e1
  cases e1
  exact hne rfl

structure FS (w : World) (fz : Bool) (x dx : Addr) (fac : Value) (kvs : List (Str × Value)) (news : List (Addr × Obj)) : Prop where
  big : 72 < x
  at_ : ∃ es n, (x, fdd fac dx es n) ∈ news ∧ DOf w es kvs ∧ (if fz = true then ∃ tk f nf, (dx, frz w tk f nf) ∈ news ∧ Froz w x f fac news else (dx, emptyDict) ∈ news)

theorem fdd_ne_dict (fac : Value) (dx : Addr) (es : Array DictEntry) (n : Nat) (o : Obj) (h : o.cls = .type "dict") : o ≠ fdd fac dx es n := fun e => by subst e; cases h
theorem Froz.keep {w : World} {x f : Addr} {fac : Value} {news news' : List (Addr × Obj)} (S : Froz w x f fac news) (hk : ∀ q ∈ news, Stable q.2 → q ∈ news') : Froz w x f fac news' := by
  obtain ⟨need, fo, fd, h1, h2, h3, h4⟩ := S
  exact ⟨need, fo, fd, fun q hq => ⟨hk q (h1 q hq).1 (h1 q hq).2.2, (h1 q hq).2⟩, h2, h3, h4⟩

section
variable {w : World} {fz : Bool} {x dx : Addr} {fac : Value} {kvs kvs' : List (Str × Value)} {news news' : List (Addr × Obj)} {h₀ h : Heap} {L : Addr}
/-- x's own dict set anew -/
theorem FS.setX (N : News h₀ L h news) {es es' : Array DictEntry} {n n' : Nat} (hb : 72 < x) (hx : (x, fdd fac dx es n) ∈ news) (hd : if fz = true then ∃ tk f nf, (dx, frz w tk f nf) ∈ news ∧ Froz w x f fac news else (dx, emptyDict) ∈ news)
    (D : DOf w es' kvs') (hx' : (x, fdd fac dx es' n') ∈ news') (hk : ∀ q ∈ news, q.1 ≠ x → q ∈ news') : FS w fz x dx fac kvs' news' := by
  refine ⟨hb, es', n', hx', D, ?_⟩
  cases fz with
  | false =>
    simp only [Bool.false_eq_true, if_false] at hd ⊢
    exact hk _ hd (news_ne' N hd hx (fdd_ne_dict _ _ _ _ _ rfl))
  | true =>
    simp only [if_true] at hd ⊢
    obtain ⟨tk, f, nf, h1, h2⟩ := hd
    exact ⟨tk, f, nf, hk _ h1 (news_ne' N h1 hx (fdd_ne_dict _ _ _ _ _ rfl)), h2.keep fun q hq hs => hk q hq (news_ne N (a := q.1) (o := q.2) hq hx (hs.1 _ _))⟩
/-- another object set anew: a list, or what is no dict and no part of the lambda -/
theorem FS.keep (S : FS w fz x dx fac kvs news) (hk : ∀ q ∈ news, (q.1 = x ∧ ∃ es n, q.2 = fdd fac dx es n) ∨ (q.1 = dx ∧ ∃ es n, q.2.data = .dict es n) ∨ Stable q.2 → q ∈ news') : FS w fz x dx fac kvs news' := by
  obtain ⟨hb, es, n, hx, D, hd⟩ := S
  refine ⟨hb, es, n, hk _ hx (.inl ⟨rfl, _, _, rfl⟩), D, ?_⟩
  cases fz with
  | false =>
    simp only [Bool.false_eq_true, if_false] at hd ⊢
    exact hk _ hd (.inr (.inl ⟨rfl, _, _, rfl⟩))
  | true =>
    simp only [if_true] at hd ⊢
    obtain ⟨tk, f, nf, h1, h2⟩ := hd
    exact ⟨tk, f, nf, hk _ h1 (.inr (.inl ⟨rfl, _, _, rfl⟩)), h2.keep fun q hq hs => hk q hq (.inr (.inr hs))⟩
end

set_option maxHeartbeats 4000000 in
theorem fs_getItem (w : World) (fz : Bool) (x dx : Addr) (fac : Value) (kvs : List (Str × Value)) (key : Str) (tk : Tok)
  (p : Program) (loose : List Str) (mean : ExcName → Option Value) (mg mb : Str → Option Value) (dp un : Nat) (gd : Option (List Code)) (cn : Str) (cs : Scope) (a : Addr) (ccd : Value) (cl : List (Str × Addr)) (outer : List Env) (A₀ : Around) (base h₀ : Heap) (L : Addr) (m : Str → Option Value) (news : List (Addr × Obj)) (s : Shared) (Q E : Value → Shared → Prop)
  (B : Below A₀ base outer h₀) (F : Fr h₀ L s.heap m) (X : (Mine.hd.heap_1 w.params).In h₀) (N : News h₀ L s.heap news) (T : Top p loose mean mg mb h₀) (hk : cs.kind = .function)
  (hd : dp + 2 < recursionLimit) (hu : un + 1 + 8 * 2 < cLine) (S : FS w fz x dx fac kvs news) (hfac : fac = .type "int" ∨ fac = .type "list") (hsz : kvs.length ≤ sizeLine)
  (hit : ∀ v tk', aget kvs key = some v → Q v { s with toks := tk' })
  (new : ∀ v h' tk' news' kvs', aget kvs key = none → ((fac = .type "int" ∧ ∃ t, v = .int 0 t) ∨ (fac = .type "list" ∧ ∃ r c, v = .ref r ∧ (r, emptyL c) ∈ news' ∧ ∀ q ∈ news, q.1 < r)) → kvs' = (if fz = true then kvs else aput kvs key v) →
    FS w fz x dx fac kvs' news' → (∀ q ∈ news, q.1 ≠ x → q ∈ news') → Fr h₀ L h' m → News h₀ L h' news' → Q v { s with heap := h', toks := tk' }) :
      wpAny (model PySem.Challenge.rw_in0194_01.row.prog w) (ktrTop dp un gd cn cs L a ccd cl outer) (getItem (.ref x) (.str key tk)) Q E s := by
  obtain ⟨hb, es, n, hx, D, hdx⟩ := S
  have X1 := X.keeps F.keep
  have lo : (x == sysModules) = false := by simp only [sysModules]; exact beq_eq_false_iff_ne.mpr (fun e => by subst e; exact absurd hb (by decide))
  obtain ⟨hh, g, d, t, os⟩ := s
  refine fdd_getItem (fi_of X1 (N _ hx).1 rfl lo) rfl D ?_
  show match aget kvs key with
    | some v => _
    | none => _
  cases hv : aget kvs key with
  | some v => exact hit v _ hv
  | none =>
    dsimp only
    cases fz with
    | false =>
      simp only [Bool.false_eq_true, if_false] at hdx new
      refine missing_core w x dx key tk fac es n kvs p loose mean mg mb dp (un + 1) gd cn cs a ccd cl outer A₀ base h₀ L m news _ _ _ B F X N hx hb hdx D hv hsz hfac T hk (by omega) (by omega) ⟨?_, ?_⟩
      · intro e t' h' tk' es' n' D' F' N'
        exact new _ h' tk' _ _ hv (.inl ⟨e, _, rfl⟩) rfl (FS.setX (fz := false) N hb hx (by simpa using hdx) D' (.head _) fun q hq hne => mem_upd hq hne) (fun q hq hne => mem_upd hq hne) F' N'
      · intro e r c h' tk' es' n' D' F' N' l'
        exact new _ h' tk' _ _ hv (.inr ⟨e, r, c, rfl, .head _, l'⟩) rfl (FS.setX (fz := false) N hb hx (by simpa using hdx) D' (.tail _ (.head _)) fun q hq hne => .tail _ (mem_upd hq hne)) (fun q hq hne => .tail _ (mem_upd hq hne)) F' N'
    | true =>
      simp only [if_true] at hdx new
      obtain ⟨tkf, f, nf, h1, h2⟩ := hdx
      refine missing_froz w x dx key tk fac es n p loose mean mg mb dp (un + 1) gd cn cs a ccd cl outer A₀ base h₀ L m news _ _ _ B F X N hx hb tkf f nf h1 h2 hfac T hk (by omega) (by omega) ⟨?_, ?_⟩
      · intro e t' h' tk' F' N'
        exact new _ h' tk' _ _ hv (.inl ⟨e, _, rfl⟩) rfl (⟨hb, es, n, hx, D, by simp only [if_true]; exact ⟨tkf, f, nf, h1, h2⟩⟩) (fun q hq _ => hq) F' N'
      · intro e r c h' tk' F' N' l'
        exact new _ h' tk' _ _ hv (.inr ⟨e, r, c, rfl, .head _, l'⟩) rfl (⟨hb, es, n, .tail _ hx, D, by simp only [if_true]; exact ⟨tkf, f, nf, .tail _ h1, h2.keep fun q hq _ => .tail _ hq⟩⟩) (fun q hq _ => .tail _ hq) F' N'

set_option maxHeartbeats 4000000 in
theorem fs_setItem (w : World) (fz : Bool) (x dx : Addr) (fac : Value) (kvs : List (Str × Value)) (key : Str) (tk : Tok) (v : Value)
  (A : Around) (h₀ : Heap) (L : Addr) (m : Str → Option Value) (news : List (Addr × Obj)) (s : Shared) (Q : Unit → Shared → Prop) (E : Value → Shared → Prop)
  (F : Fr h₀ L s.heap m) (X : (Mine.hd.heap_1 w.params).In h₀) (N : News h₀ L s.heap news) (S : FS w fz x dx fac kvs news) (hsz : kvs.length ≤ sizeLine)
  (ret : ∀ h' tk' news', FS w fz x dx fac (aput kvs key v) news' → (∀ q ∈ news, q.1 ≠ x → q ∈ news') → Fr h₀ L h' m → News h₀ L h' news' → Q () { s with heap := h', toks := tk' }) :
      wpAny (model PySem.Challenge.rw_in0194_01.row.prog w) A (setItem (.ref x) (.str key tk) v) Q E s := by
  obtain ⟨hb, es, n, hx, D, hdx⟩ := S
  have X1 := X.keeps F.keep
  have lo : (x == sysModules) = false := by simp only [sysModules]; exact beq_eq_false_iff_ne.mpr (fun e => by subst e; exact absurd hb (by decide))
  obtain ⟨hh, g, d, t, os⟩ := s
  refine fdd_setItem (fi_of X1 (N _ hx).1 rfl lo) rfl D hsz ?_
  intro h' es' ep' h1 D' h3
  exact ret h' _ _ (FS.setX N hb hx hdx D' (.head _) fun q hq hne => mem_upd hq hne) (fun q hq hne => mem_upd hq hne) (F.change h3 (N _ hx).2.1 (N _ hx).2.2) (news_updX N hx h3 h1)

section
variable (w : World) (fz : Bool) (x dx : Addr) (key : Str) (tk : Tok)
  (p : Program) (loose : List Str) (mean : ExcName → Option Value) (mg mb : Str → Option Value) (dp un : Nat) (gd : Option (List Code)) (cn : Str) (cs : Scope) (a : Addr) (ccd : Value) (cl : List (Str × Addr)) (outer : List Env) (A₀ : Around) (base h₀ : Heap) (L : Addr) (m : Str → Option Value) (news : List (Addr × Obj)) (s : Shared) (Q E : Value → Shared → Prop)
/-- sums[key] -/
theorem sum_get (kvs : List (Str × Value)) (T₀ : List (Str × Int))
  (B : Below A₀ base outer h₀) (F : Fr h₀ L s.heap m) (X : (Mine.hd.heap_1 w.params).In h₀) (N : News h₀ L s.heap news) (T : Top p loose mean mg mb h₀) (hk : cs.kind = .function)
  (hdp : dp + 2 < recursionLimit) (hu : un + 1 + 8 * 2 < cLine) (S : FS w fz x dx (.type "int") kvs news) (V : KV IV kvs T₀) (hsz : kvs.length ≤ sizeLine)
  (ret : ∀ t h' tk' news' kvs', FS w fz x dx (.type "int") kvs' news' → (∀ v, aput kvs' key v = aput kvs key v) → kvs'.length ≤ kvs.length + 1 → (∀ q ∈ news, q.1 ≠ x → q ∈ news') → Fr h₀ L h' m → News h₀ L h' news' → Q (.int ((aget T₀ key).getD 0) t) { s with heap := h', toks := tk' }) :
      wpAny (model PySem.Challenge.rw_in0194_01.row.prog w) (ktrTop dp un gd cn cs L a ccd cl outer) (getItem (.ref x) (.str key tk)) Q E s := by
  refine fs_getItem w fz x dx (.type "int") kvs key tk p loose mean mg mb dp un gd cn cs a ccd cl outer A₀ base h₀ L m news s Q E B F X N T hk hdp hu S (.inl rfl) hsz ?_ ?_
  · intro v tk' hv
    rcases V.get key with ⟨e, _⟩ | ⟨v', b, e1, e2, t, rfl⟩
    · rw [hv] at e; cases e
    · rw [hv] at e1; cases e1
      have := ret t s.heap tk' news kvs S (fun _ => rfl) (Nat.le_succ _) (fun q hq _ => hq) F N
      rw [e2] at this; exact this
  · intro v h' tk' news' kvs' hv hc hkv S' keep F' N'
    rcases V.get key with ⟨e, e2⟩ | ⟨v', b, e1, _⟩
    · rcases hc with ⟨_, t, rfl⟩ | ⟨e, _⟩
      · have := ret t h' tk' news' kvs' S' (by rw [hkv]; intro v; split; rfl; exact aput_aput _ _ _ _) (by rw [hkv]; split; exact Nat.le_succ _; exact aput_len _ _ _) keep F' N'
        rw [e2] at this; exact this
      · injection e with e; exact absurd e (by decide)
    · rw [hv] at e1; cases e1
/-- lists[key] -/
theorem list_get (kvs : List (Str × Value)) (M₀ : List (Str × List Str))
  (B : Below A₀ base outer h₀) (F : Fr h₀ L s.heap m) (X : (Mine.hd.heap_1 w.params).In h₀) (N : News h₀ L s.heap news) (T : Top p loose mean mg mb h₀) (hk : cs.kind = .function)
  (hdp : dp + 2 < recursionLimit) (hu : un + 1 + 8 * 2 < cLine) (S : FS w fz x dx (.type "list") kvs news) (V : KV (LV news) kvs M₀) (hsz : kvs.length ≤ sizeLine)
  (hit : ∀ r vs c ss tk', aget kvs key = some (.ref r) → aget M₀ key = some ss → (r, listOf vs.toArray c) ∈ news → StrsAre vs ss → Q (.ref r) { s with toks := tk' })
  (new : ∀ r c h' tk' news' kvs', aget kvs key = none → aget M₀ key = none → kvs' = (if fz = true then kvs else aput kvs key (.ref r)) → FS w fz x dx (.type "list") kvs' news' → (r, emptyL c) ∈ news' → (∀ q ∈ news, q.1 < r) → (∀ q ∈ news, q.1 ≠ x → q ∈ news') → Fr h₀ L h' m → News h₀ L h' news' → Q (.ref r) { s with heap := h', toks := tk' }) :
      wpAny (model PySem.Challenge.rw_in0194_01.row.prog w) (ktrTop dp un gd cn cs L a ccd cl outer) (getItem (.ref x) (.str key tk)) Q E s := by
  refine fs_getItem w fz x dx (.type "list") kvs key tk p loose mean mg mb dp un gd cn cs a ccd cl outer A₀ base h₀ L m news s Q E B F X N T hk hdp hu S (.inr rfl) hsz ?_ ?_
  · intro v tk' hv
    rcases V.get key with ⟨e, _⟩ | ⟨v', b, e1, e2, r, vs, c, rfl, hm, hs⟩
    · rw [hv] at e; cases e
    · rw [hv] at e1; cases e1
      exact hit r vs c b tk' hv e2 hm hs
  · intro v h' tk' news' kvs' hv hc hkv S' keep F' N'
    rcases V.get key with ⟨e, e2⟩ | ⟨v', b, e1, _⟩
    · rcases hc with ⟨e, _⟩ | ⟨_, r, c, rfl, hm, hlt⟩
      · injection e with e; exact absurd e (by decide)
      · exact new r c h' tk' news' kvs' hv e2 hkv S' hm hlt keep F' N'
    · rw [hv] at e1; cases e1
end
end Mine
end
section
open PySem PySem.W PyProof.Rows PySem.Calls PySem.Spec
set_option Elab.async false
set_option maxRecDepth 100000
namespace Mine
/-- no iterator's object -/
def NotIt (o : Obj) : Prop := ∀ vs k t, o.data = .fields vs → vs[1]? ≠ some (.int k t)
def IsIt (o : Obj) : Prop := ∃ vs k t, o.data = .fields vs ∧ vs[1]? = some (.int k t)
/-- how a turn ends -/
def TurnEnd (h₀ : Heap) (L : Addr) (it : Addr × Obj) (J : (Str → Option Value) → List (Addr × Obj) → Prop) (s₁ : Shared) (f : Flow) (s₂ : Shared) : Prop :=
  (f = .next ∨ f = .cont) ∧ ∃ h' tk m' nx, s₂ = { s₁ with heap := h', toks := tk } ∧ Fr h₀ L h' m' ∧ News h₀ L h' nx ∧ it ∈ nx ∧ J m' nx
def TurnEndT (h₀ : Heap) (L : Addr) (it : Addr × Obj) (J : (Str → Option Value) → List (Addr × Obj) → Prop) (s₁ : Shared) (f : Flow) (s₂ : Shared) : Prop :=
  f = .next ∧ ∃ h' tk m' nx, s₂ = { s₁ with heap := h', toks := tk } ∧ Fr h₀ L h' m' ∧ News h₀ L h' nx ∧ it ∈ nx ∧ J m' nx
section
variable {prog : Program} {w : World} {A : Around} {E : Value → Shared → Prop} {s : Shared} {env : Env} {h₀ : Heap} {target : Expr} {body : List Stmt} {Q : Flow → Shared → Prop}
theorem turn_out {h₀ h' : Heap} {L I l : Addr} {oI : Obj} {ol : Obj} {own nx news : List (Addr × Obj)} {J : (Str → Option Value) → List (Addr × Obj) → Prop} {s₁ : Shared} {tk : Nat} {m' : Str → Option Value} (hIt : IsIt oI) (hol : NotIt ol)
    (hown : ∀ p ∈ own, p = (I, oI) ∨ p = (l, ol)) (F : Fr h₀ L h' m') (N : News h₀ L h' nx) (hit : (I, oI) ∈ nx) (hl : (l, ol) ∈ nx)
    (hnI : ∀ p ∈ news, p.1 ≠ I) (hJc : ∀ nx', (∀ p ∈ nx, NotIt p.2 ∨ p ∈ news → p ∈ nx') → J m' nx') : LoopStepU h₀ L [I] own (fun m nx => (l, ol) ∈ nx ∧ J m nx) s₁ .next { s₁ with heap := h', toks := tk } := by
  have hne : ∀ p ∈ nx, NotIt p.2 → p.1 ≠ I := fun p hp hn e => by
    have e1 := (N _ hp).1; have e2 := (N _ hit).1
    dsimp only at e2
    rw [e, e2] at e1
    cases e1
    obtain ⟨u, k, t, e, e2⟩ := hIt
    exact hn _ _ _ e e2
  have sub : ∀ p ∈ nx, NotIt p.2 ∨ p ∈ news → p ∈ nx.filter (fun p => decide (p.1 ≠ I)) := fun p hp hn => mem_filt hp (hn.elim (hne p hp) (hnI p))
  refine ⟨rfl, h', tk, m', nx.filter (fun p => decide (p.1 ≠ I)), rfl, F, fun p hp => ?_, fun p hp hq => ?_, sub _ hl (.inl hol), hJc _ sub⟩
  · rcases List.mem_append.mp hp with hp | hp
    · rcases hown p hp with rfl | rfl
      · exact N _ hit
      · exact N _ hl
    · exact N _ (List.mem_filter.mp hp).1
  · exact filt_ne p hp (List.mem_singleton.mp hq)
theorem mlist_iter {l : Addr} {vs : List Value} {nn : Nat} {m₀ : Str → Option Value} {news : List (Addr × Obj)} (J : Nat → (Str → Option Value) → List (Addr × Obj) → Prop)
    (hh : A.handled = none) (hl : (l, listOf vs.toArray nn) ∈ news) (F : Fr h₀ env.locals s.heap m₀) (N : News h₀ env.locals s.heap news)
    (hJ : ∀ i m nx nx', J i m nx → (∀ p ∈ nx, NotIt p.2 ∨ p ∈ news → p ∈ nx') → J i m nx') (hj : J 0 m₀ news)
    (turn : ∀ i v m₁ news₁ (s₁ : Shared) it, vs[i]? = some v → IsIt it.2 → (l, listOf vs.toArray nn) ∈ news₁ → J i m₁ news₁ → Fr h₀ env.locals s₁.heap m₁ → News h₀ env.locals s₁.heap (it :: news₁) →
      wpAny (model prog w) A (assign target env v) (fun _ s₃ => wpAny (model prog w) A (execs body env) (TurnEndT h₀ env.locals it (fun m' nx => (l, listOf vs.toArray nn) ∈ nx ∧ J (i + 1) m' nx) s₁) E s₃) E s₁)
    (done : ∀ m₁ news₁ h tk, J vs.length m₁ news₁ → Fr h₀ env.locals h m₁ → News h₀ env.locals h news₁ → Q .next { s with heap := h, toks := tk }) :
    wpAny (model prog w) A (pyIter (.ref l)) (fun it s₂ => LoopAtT prog w A h₀ env target body Q E it s₂) E s := by
  have hol : s.heap.get? l = some (listOf vs.toArray nn) := (N _ hl).1
  have hls : s.heap.IsList l vs.toArray := ⟨_, hol, rfl, nn, rfl⟩
  have hne : l ≠ s.heap.objs.size := Nat.ne_of_lt (Heap.lt_size hol)
  refine wpAny_pyIter_list hls ?_
  have W := Walks.list (prog := prog) (w := w) hh s.heap.objs.size l hne vs.toArray
  have hlen : vs.toArray.size = vs.length := by simp
  rw [hlen] at W
  refine ⟨_, _, _, vs.length, _, _, m₀, news, (fun i m nx => (l, listOf vs.toArray nn) ∈ nx ∧ J i m nx), rfl, W, ?_, ?_, ?_, ⟨⟨_, Heap.get?_push_size _ rfl, rfl, rfl⟩, hls.at fun o e => Heap.get?_push_of_some _ e⟩, F.push _, (fun p hp => ⟨Heap.get?_push_of_some _ (N p hp).1, (N p hp).2⟩), (fun i s' v Q' st hQ' => letGo_listiter st.1 hQ'), ⟨hl, hj⟩, ?_, ?_⟩
  · intro hm
    rcases List.mem_cons.mp hm with e | hm
    · exact absurd F.ns.lt (e ▸ Nat.lt_irrefl _)
    · exact (N _ hl).2.1 ((List.mem_singleton.mp hm).symm)
  · intro b hb
    rw [List.mem_singleton.mp hb]
    exact next_is_new F
  · intro p hp hI
    exact absurd (Heap.lt_size (N p hp).1) ((List.mem_singleton.mp hI) ▸ Nat.lt_irrefl _)
  · rintro i v m₁ news₁ s₁ own hin hP ⟨hl₁, hJ1⟩ hoff hown hget hfp hst F₁ N₁
    have hP' : vs[i]? = some v := by simpa using hP
    have hI0 : h₀.get? s.heap.objs.size = none := next_is_new F
    obtain ⟨⟨oI, hoI, hc1, hd1⟩, _⟩ := id hst
    have hIt : IsIt oI := ⟨_, _, _, hd1, rfl⟩
    have hmI : (s.heap.objs.size, oI) ∈ own := hfp _ (List.mem_cons.mpr (.inl rfl)) hI0 _ hoI
    have N₂ : News h₀ env.locals s₁.heap ((s.heap.objs.size, oI) :: news₁) := fun p hp => N₁ p ((List.mem_cons.mp hp).elim (fun h => List.mem_append.mpr (.inl (h ▸ hmI))) fun h => List.mem_append.mpr (.inr h))
    have hlo : s₁.heap.get? l = some (listOf vs.toArray nn) := (N₁ _ (List.mem_append.mpr (.inr hl₁))).1
    have hown' : ∀ p ∈ own, p = (s.heap.objs.size, oI) ∨ p = (l, listOf vs.toArray nn) := fun p hp => by
      have h2 : s₁.heap.get? p.1 = some p.2 := hget p hp
      rcases List.mem_cons.mp (hown p hp) with e | e
      · rw [e, hoI] at h2
        exact .inl (Prod.ext e (Option.some.inj h2).symm)
      · rw [List.mem_singleton.mp e, hlo] at h2
        exact .inr (Prod.ext (List.mem_singleton.mp e) (Option.some.inj h2).symm)
    refine wpAny_mono (turn i v m₁ news₁ s₁ _ hP' hIt hl₁ hJ1 F₁ N₂) (fun _ s₃ hb => wpAny_mono hb (fun f s₂ p => ?_) fun _ _ e => e) fun _ _ e => e
    obtain ⟨rfl, h', tk, m', nx, rfl, F', N', hit, hl', hJ'⟩ := p
    exact turn_out hIt (fun _ _ _ e => nomatch e) hown' F' N' hit hl' (fun p hp => Nat.ne_of_lt (Heap.lt_size (N p hp).1)) fun nx' hs => hJ _ _ _ _ hJ' hs
  · rintro h' tk m' news' F' N' _ ⟨_, hJ⟩
    exact done m' news' h' tk hJ F' N'
theorem mlist_iterV {x : Str} {l : Addr} {vs : List Value} {nn : Nat} {m₀ : Str → Option Value} {news : List (Addr × Obj)} (J : Nat → (Str → Option Value) → List (Addr × Obj) → Prop)
    (hh : A.handled = none) (hl : (l, listOf vs.toArray nn) ∈ news) (F : Fr h₀ env.locals s.heap m₀) (N : News h₀ env.locals s.heap news)
    (hJ : ∀ i m nx nx', J i m nx → (∀ p ∈ nx, NotIt p.2 ∨ p ∈ news → p ∈ nx') → J i m nx') (hj : J 0 m₀ news)
    (turn : ∀ i v m₁ news₁ (s₁ : Shared) it, vs[i]? = some v → IsIt it.2 → (l, listOf vs.toArray nn) ∈ news₁ → J i m₁ news₁ → Fr h₀ env.locals s₁.heap (fun y => if y = x then some v else m₁ y) → News h₀ env.locals s₁.heap (it :: news₁) →
      wpAny (model prog w) A (execs body env) (TurnEnd h₀ env.locals it (fun m' nx => (l, listOf vs.toArray nn) ∈ nx ∧ J (i + 1) m' nx) s₁) E s₁)
    (done : ∀ m₁ news₁ h tk, J vs.length m₁ news₁ → Fr h₀ env.locals h m₁ → News h₀ env.locals h news₁ → Q .next { s with heap := h, toks := tk }) :
    wpAny (model prog w) A (pyIter (.ref l)) (fun it s₂ => LoopAtV prog w A h₀ env x body Q E it s₂) E s := by
  have hol : s.heap.get? l = some (listOf vs.toArray nn) := (N _ hl).1
  have hls : s.heap.IsList l vs.toArray := ⟨_, hol, rfl, nn, rfl⟩
  have hne : l ≠ s.heap.objs.size := Nat.ne_of_lt (Heap.lt_size hol)
  refine wpAny_pyIter_list hls ?_
  have W := Walks.list (prog := prog) (w := w) hh s.heap.objs.size l hne vs.toArray
  have hlen : vs.toArray.size = vs.length := by simp
  rw [hlen] at W
  refine ⟨_, _, _, vs.length, _, _, m₀, news, (fun i m nx => (l, listOf vs.toArray nn) ∈ nx ∧ J i m nx), rfl, W, ?_, ?_, ?_, ⟨⟨_, Heap.get?_push_size _ rfl, rfl, rfl⟩, hls.at fun o e => Heap.get?_push_of_some _ e⟩, F.push _, (fun p hp => ⟨Heap.get?_push_of_some _ (N p hp).1, (N p hp).2⟩), ⟨hl, hj⟩, ?_, ?_⟩
  · intro hm
    rcases List.mem_cons.mp hm with e | hm
    · exact absurd F.ns.lt (e ▸ Nat.lt_irrefl _)
    · exact (N _ hl).2.1 ((List.mem_singleton.mp hm).symm)
  · intro b hb
    rw [List.mem_singleton.mp hb]
    exact next_is_new F
  · intro p hp hI
    exact absurd (Heap.lt_size (N p hp).1) ((List.mem_singleton.mp hI) ▸ Nat.lt_irrefl _)
  · rintro i v m₁ news₁ s₁ own _ hin hP ⟨hl₁, hJ1⟩ hoff hown hget hfp hst F₁ N₁
    have hP' : vs[i]? = some v := by simpa using hP
    have hI0 : h₀.get? s.heap.objs.size = none := next_is_new F
    obtain ⟨⟨oI, hoI, hc1, hd1⟩, _⟩ := id hst
    have hIt : IsIt oI := ⟨_, _, _, hd1, rfl⟩
    have hmI : (s.heap.objs.size, oI) ∈ own := hfp _ (List.mem_cons.mpr (.inl rfl)) hI0 _ hoI
    have N₂ : News h₀ env.locals s₁.heap ((s.heap.objs.size, oI) :: news₁) := fun p hp => N₁ p ((List.mem_cons.mp hp).elim (fun h => List.mem_append.mpr (.inl (h ▸ hmI))) fun h => List.mem_append.mpr (.inr h))
    have hlo : s₁.heap.get? l = some (listOf vs.toArray nn) := (N₁ _ (List.mem_append.mpr (.inr hl₁))).1
    have hown' : ∀ p ∈ own, p = (s.heap.objs.size, oI) ∨ p = (l, listOf vs.toArray nn) := fun p hp => by
      have h2 : s₁.heap.get? p.1 = some p.2 := hget p hp
      rcases List.mem_cons.mp (hown p hp) with e | e
      · rw [e, hoI] at h2
        exact .inl (Prod.ext e (Option.some.inj h2).symm)
      · rw [List.mem_singleton.mp e, hlo] at h2
        exact .inr (Prod.ext (List.mem_singleton.mp e) (Option.some.inj h2).symm)
    refine wpAny_mono (turn i v m₁ news₁ s₁ _ hP' hIt hl₁ hJ1 F₁ N₂) (fun f s₂ p => ?_) fun _ _ e => e
    obtain ⟨hf, h', tk, m', nx, rfl, F', N', hit, hl', hJ'⟩ := p
    have out := turn_out (ol := listOf vs.toArray nn) (s₁ := s₁) (tk := tk) (own := own) (J := fun m nx => J (i + 1) m nx) hIt (fun _ _ _ e => nomatch e) hown' F' N' hit hl' (fun p hp => Nat.ne_of_lt (Heap.lt_size (N p hp).1)) fun nx' hs => hJ _ _ _ _ hJ' hs
    rcases hf with rfl | rfl
    · exact .next out
    · exact .cont out
  · rintro h' tk m' news' F' N' _ ⟨_, hJ⟩
    exact done m' news' h' tk hJ F' N'
noncomputable abbrev tupOf (vs : List Value) (nn : Nat) : Obj := { cls := .type "tuple", data := .seq vs.toArray nn }
theorem mtup_iterV {x : Str} {l : Addr} {vs : List Value} {nn : Nat} {m₀ : Str → Option Value} {news : List (Addr × Obj)} (J : Nat → (Str → Option Value) → List (Addr × Obj) → Prop)
    (hh : A.handled = none) (hl : (l, tupOf vs nn) ∈ news) (F : Fr h₀ env.locals s.heap m₀) (N : News h₀ env.locals s.heap news)
    (hJ : ∀ i m nx nx', J i m nx → (∀ p ∈ nx, NotIt p.2 ∨ p ∈ news → p ∈ nx') → J i m nx') (hj : J 0 m₀ news)
    (turn : ∀ i v m₁ news₁ (s₁ : Shared) it, vs[i]? = some v → IsIt it.2 → (l, tupOf vs nn) ∈ news₁ → J i m₁ news₁ → Fr h₀ env.locals s₁.heap (fun y => if y = x then some v else m₁ y) → News h₀ env.locals s₁.heap (it :: news₁) →
      wpAny (model prog w) A (execs body env) (TurnEnd h₀ env.locals it (fun m' nx => (l, tupOf vs nn) ∈ nx ∧ J (i + 1) m' nx) s₁) E s₁)
    (done : ∀ m₁ news₁ h tk, J vs.length m₁ news₁ → Fr h₀ env.locals h m₁ → News h₀ env.locals h news₁ → Q .next { s with heap := h, toks := tk }) :
    wpAny (model prog w) A (pyIter (.ref l)) (fun it s₂ => LoopAtV prog w A h₀ env x body Q E it s₂) E s := by
  have hol : s.heap.get? l = some (tupOf vs nn) := (N _ hl).1
  have hls : s.heap.IsTuple l vs.toArray := ⟨_, hol, rfl, nn, rfl⟩
  have hne : l ≠ s.heap.objs.size := Nat.ne_of_lt (Heap.lt_size hol)
  refine wpAny_pyIter_tuple hls ?_
  have W := Walks.tuple (prog := prog) (w := w) hh s.heap.objs.size l hne vs.toArray
  have hlen : vs.toArray.size = vs.length := by simp
  rw [hlen] at W
  refine ⟨_, _, _, vs.length, _, _, m₀, news, (fun i m nx => (l, tupOf vs nn) ∈ nx ∧ J i m nx), rfl, W, ?_, ?_, ?_, ⟨⟨_, Heap.get?_push_size _ rfl, rfl, rfl⟩, hls.at fun o e => Heap.get?_push_of_some _ e⟩, F.push _, (fun p hp => ⟨Heap.get?_push_of_some _ (N p hp).1, (N p hp).2⟩), ⟨hl, hj⟩, ?_, ?_⟩
  · intro hm
    rcases List.mem_cons.mp hm with e | hm
    · exact absurd F.ns.lt (e ▸ Nat.lt_irrefl _)
    · exact (N _ hl).2.1 ((List.mem_singleton.mp hm).symm)
  · intro b hb
    rw [List.mem_singleton.mp hb]
    exact next_is_new F
  · intro p hp hI
    exact absurd (Heap.lt_size (N p hp).1) ((List.mem_singleton.mp hI) ▸ Nat.lt_irrefl _)
  · rintro i v m₁ news₁ s₁ own _ hin hP ⟨hl₁, hJ1⟩ hoff hown hget hfp hst F₁ N₁
    have hP' : vs[i]? = some v := by simpa using hP
    have hI0 : h₀.get? s.heap.objs.size = none := next_is_new F
    obtain ⟨⟨oI, hoI, hc1, hd1⟩, _⟩ := id hst
    have hIt : IsIt oI := ⟨_, _, _, hd1, rfl⟩
    have hmI : (s.heap.objs.size, oI) ∈ own := hfp _ (List.mem_cons.mpr (.inl rfl)) hI0 _ hoI
    have N₂ : News h₀ env.locals s₁.heap ((s.heap.objs.size, oI) :: news₁) := fun p hp => N₁ p ((List.mem_cons.mp hp).elim (fun h => List.mem_append.mpr (.inl (h ▸ hmI))) fun h => List.mem_append.mpr (.inr h))
    have hlo : s₁.heap.get? l = some (tupOf vs nn) := (N₁ _ (List.mem_append.mpr (.inr hl₁))).1
    have hown' : ∀ p ∈ own, p = (s.heap.objs.size, oI) ∨ p = (l, tupOf vs nn) := fun p hp => by
      have h2 : s₁.heap.get? p.1 = some p.2 := hget p hp
      rcases List.mem_cons.mp (hown p hp) with e | e
      · rw [e, hoI] at h2
        exact .inl (Prod.ext e (Option.some.inj h2).symm)
      · rw [List.mem_singleton.mp e, hlo] at h2
        exact .inr (Prod.ext (List.mem_singleton.mp e) (Option.some.inj h2).symm)
    refine wpAny_mono (turn i v m₁ news₁ s₁ _ hP' hIt hl₁ hJ1 F₁ N₂) (fun f s₂ p => ?_) fun _ _ e => e
    obtain ⟨hf, h', tk, m', nx, rfl, F', N', hit, hl', hJ'⟩ := p
    have out := turn_out (ol := tupOf vs nn) (s₁ := s₁) (tk := tk) (own := own) (J := fun m nx => J (i + 1) m nx) hIt (fun _ _ _ e => nomatch e) hown' F' N' hit hl' (fun p hp => Nat.ne_of_lt (Heap.lt_size (N p hp).1)) fun nx' hs => hJ _ _ _ _ hJ' hs
    rcases hf with rfl | rfl
    · exact .next out
    · exact .cont out
  · rintro h' tk m' news' F' N' _ ⟨_, hJ⟩
    exact done m' news' h' tk hJ F' N'
theorem mrange_iterV {x : Str} {r : Addr} {a b c : Int} {t u v : Tok} {n : Nat} {m₀ : Str → Option Value} {news : List (Addr × Obj)} (J : Nat → (Str → Option Value) → List (Addr × Obj) → Prop)
    (hh : A.handled = none) (hr : IsRange s.heap r a b c t u v) (hsm : Builtin.Range.small a b c = true) (hn : Builtin.Range.rangeSize a b c = (n : Int)) (F : Fr h₀ env.locals s.heap m₀) (N : News h₀ env.locals s.heap news)
    (hJ : ∀ i m nx nx', J i m nx → (∀ p ∈ nx, NotIt p.2 ∨ p ∈ news → p ∈ nx') → J i m nx') (hj : J 0 m₀ news)
    (turn : ∀ i t m₁ news₁ (s₁ : Shared) it, i < n → IsIt it.2 → J i m₁ news₁ → Fr h₀ env.locals s₁.heap (fun y => if y = x then some (.int (a + (i : Int) * c) t) else m₁ y) → News h₀ env.locals s₁.heap (it :: news₁) →
      wpAny (model prog w) A (execs body env) (TurnEnd h₀ env.locals it (fun m' nx => J (i + 1) m' nx) s₁) E s₁)
    (done : ∀ m₁ news₁ h tk, J n m₁ news₁ → Fr h₀ env.locals h m₁ → News h₀ env.locals h news₁ → Q .next { s with heap := h, toks := tk }) :
    wpAny (model prog w) A (pyIter (.ref r)) (fun it s₂ => LoopAtV prog w A h₀ env x body Q E it s₂) E s := by
  refine wpAny_pyIter_range hr hsm ?_
  have W := Walks.range (prog := prog) (w := w) hh s.heap.objs.size a c n
  refine ⟨_, _, _, n, _, _, m₀, news, J, rfl, W, ?_, ?_, ?_, (by show IsRangeIter _ _ _ _ _; rw [hn]; simpa using Heap.get?_push_size _ rfl), F.push _, (fun p hp => ⟨Heap.get?_push_of_some _ (N p hp).1, (N p hp).2⟩), hj, ?_, ?_⟩
  · intro hm
    exact absurd F.ns.lt ((List.mem_singleton.mp hm) ▸ Nat.lt_irrefl _)
  · intro b hb
    rw [List.mem_singleton.mp hb]
    exact next_is_new F
  · intro p hp hI
    exact absurd (Heap.lt_size (N p hp).1) ((List.mem_singleton.mp hI) ▸ Nat.lt_irrefl _)
  · rintro i v m₁ news₁ s₁ own _ hin ⟨t, rfl⟩ hJ1 hoff hown hget hfp hst F₁ N₁
    have hI0 : h₀.get? s.heap.objs.size = none := next_is_new F
    have hoI : s₁.heap.get? s.heap.objs.size = some _ := hst
    obtain ⟨oI, hoI, hIt⟩ : ∃ oI, s₁.heap.get? s.heap.objs.size = some oI ∧ IsIt oI := ⟨_, hoI, _, _, _, rfl, rfl⟩
    have hmI : (s.heap.objs.size, oI) ∈ own := hfp _ (.head _) hI0 _ hoI
    have N₂ : News h₀ env.locals s₁.heap ((s.heap.objs.size, oI) :: news₁) := fun p hp => N₁ p ((List.mem_cons.mp hp).elim (fun h => List.mem_append.mpr (.inl (h ▸ hmI))) fun h => List.mem_append.mpr (.inr h))
    have hown' : ∀ p ∈ own, p = (s.heap.objs.size, oI) := fun p hp => by
      have h2 : s₁.heap.get? p.1 = some p.2 := hget p hp
      have e := List.mem_singleton.mp (hown p hp)
      rw [e, hoI] at h2
      exact Prod.ext e (Option.some.inj h2).symm
    refine wpAny_mono (turn i t m₁ news₁ s₁ _ hin hIt hJ1 F₁ N₂) (fun f s₂ p => ?_) fun _ _ e => e
    obtain ⟨hf, h', tk, m', nx, rfl, F', N', hit, hJ'⟩ := p
    have hne : ∀ p ∈ nx, NotIt p.2 → p.1 ≠ s.heap.objs.size := fun p hp hn e => by
      have e1 := (N' _ hp).1; have e2 := (N' _ hit).1
      dsimp only at e2
      rw [e, e2] at e1
      cases e1
      obtain ⟨u, k, t, e, e2⟩ := hIt
      exact hn _ _ _ e e2
    have sub : ∀ p ∈ nx, NotIt p.2 ∨ p ∈ news → p ∈ nx.filter (fun p => decide (p.1 ≠ s.heap.objs.size)) := fun p hp hn => mem_filt hp (hn.elim (hne p hp) (fun h => Nat.ne_of_lt (Heap.lt_size (N p h).1)))
    have out : LoopStepU h₀ env.locals [s.heap.objs.size] own (J (i + 1)) s₁ .next { s₁ with heap := h', toks := tk } := by
      refine ⟨rfl, h', tk, m', nx.filter (fun p => decide (p.1 ≠ s.heap.objs.size)), rfl, F', fun p hp => ?_, fun p hp hq => ?_, hJ _ _ _ _ hJ' sub⟩
      · rcases List.mem_append.mp hp with hp | hp
        · rw [hown' p hp]; exact N' _ hit
        · exact N' _ (List.mem_filter.mp hp).1
      · exact filt_ne p hp (List.mem_singleton.mp hq)
    rcases hf with rfl | rfl
    · exact .next out
    · exact .cont out
  · rintro h' tk m' news' F' N' _ hJ
    exact done m' news' h' tk hJ F' N'
end
end Mine
end
section
open PySem PySem.W PyProof.Rows PySem.Calls PySem.Spec
set_option Elab.async false
set_option maxRecDepth 100000
namespace Mine
section
variable {prog : Program} {w : World} {A : Around} {E : Value → Shared → Prop} {s : Shared} {env : Env} {h₀ : Heap} {target : Expr} {body : List Stmt} {Q : Flow → Shared → Prop}
theorem mrange_iterV2 {x : Str} {r : Addr} {a b c : Int} {t u v : Tok} {n : Nat} {m₀ : Str → Option Value} {news : List (Addr × Obj)} (J : Nat → (Str → Option Value) → List (Addr × Obj) → Prop)
    (hh : A.handled = none) (hr : IsRange s.heap r a b c t u v) (hsm : Builtin.Range.small a b c = true) (hn : Builtin.Range.rangeSize a b c = (n : Int)) (F : Fr h₀ env.locals s.heap m₀) (N : News h₀ env.locals s.heap news)
    (hJ : ∀ i m nx nx', J i m nx → (∀ p ∈ nx, NotIt p.2 ∨ (∃ q ∈ news, q.1 = p.1) → p ∈ nx') → J i m nx') (hj : J 0 m₀ news)
    (turn : ∀ i t m₁ news₁ (s₁ : Shared) it, i < n → IsIt it.2 → (∀ q ∈ news, q.1 < it.1) → J i m₁ news₁ → Fr h₀ env.locals s₁.heap (fun y => if y = x then some (.int (a + (i : Int) * c) t) else m₁ y) → News h₀ env.locals s₁.heap (it :: news₁) →
      wpAny (model prog w) A (execs body env) (TurnEnd h₀ env.locals it (fun m' nx => J (i + 1) m' nx) s₁) E s₁)
    (done : ∀ m₁ news₁ h tk, J n m₁ news₁ → Fr h₀ env.locals h m₁ → News h₀ env.locals h news₁ → Q .next { s with heap := h, toks := tk }) :
    wpAny (model prog w) A (pyIter (.ref r)) (fun it s₂ => LoopAtV prog w A h₀ env x body Q E it s₂) E s := by
  refine wpAny_pyIter_range hr hsm ?_
  have W := Walks.range (prog := prog) (w := w) hh s.heap.objs.size a c n
  refine ⟨_, _, _, n, _, _, m₀, news, J, rfl, W, ?_, ?_, ?_, (by show IsRangeIter _ _ _ _ _; rw [hn]; simpa using Heap.get?_push_size _ rfl), F.push _, (fun p hp => ⟨Heap.get?_push_of_some _ (N p hp).1, (N p hp).2⟩), hj, ?_, ?_⟩
  · intro hm
    exact absurd F.ns.lt ((List.mem_singleton.mp hm) ▸ Nat.lt_irrefl _)
  · intro b hb
    rw [List.mem_singleton.mp hb]
    exact next_is_new F
  · intro p hp hI
    exact absurd (Heap.lt_size (N p hp).1) ((List.mem_singleton.mp hI) ▸ Nat.lt_irrefl _)
  · rintro i v m₁ news₁ s₁ own _ hin ⟨t, rfl⟩ hJ1 hoff hown hget hfp hst F₁ N₁
    have hI0 : h₀.get? s.heap.objs.size = none := next_is_new F
    have hoI : s₁.heap.get? s.heap.objs.size = some _ := hst
    obtain ⟨oI, hoI, hIt⟩ : ∃ oI, s₁.heap.get? s.heap.objs.size = some oI ∧ IsIt oI := ⟨_, hoI, _, _, _, rfl, rfl⟩
    have hmI : (s.heap.objs.size, oI) ∈ own := hfp _ (.head _) hI0 _ hoI
    have N₂ : News h₀ env.locals s₁.heap ((s.heap.objs.size, oI) :: news₁) := fun p hp => N₁ p ((List.mem_cons.mp hp).elim (fun h => List.mem_append.mpr (.inl (h ▸ hmI))) fun h => List.mem_append.mpr (.inr h))
    have hown' : ∀ p ∈ own, p = (s.heap.objs.size, oI) := fun p hp => by
      have h2 : s₁.heap.get? p.1 = some p.2 := hget p hp
      have e := List.mem_singleton.mp (hown p hp)
      rw [e, hoI] at h2
      exact Prod.ext e (Option.some.inj h2).symm
    refine wpAny_mono (turn i t m₁ news₁ s₁ (s.heap.objs.size, oI) hin hIt (fun q hq => Heap.lt_size (N q hq).1) hJ1 F₁ N₂) (fun f s₂ p => ?_) fun _ _ e => e
    obtain ⟨hf, h', tk, m', nx, rfl, F', N', hit, hJ'⟩ := p
    have hne : ∀ p ∈ nx, NotIt p.2 → p.1 ≠ s.heap.objs.size := fun p hp hn e => by
      have e1 := (N' _ hp).1; have e2 := (N' _ hit).1
      dsimp only at e2
      rw [e, e2] at e1
      cases e1
      obtain ⟨u, k, t, e, e2⟩ := hIt
      exact hn _ _ _ e e2
    have sub : ∀ p ∈ nx, NotIt p.2 ∨ (∃ q ∈ news, q.1 = p.1) → p ∈ nx.filter (fun p => decide (p.1 ≠ s.heap.objs.size)) := fun p hp hn => mem_filt hp (hn.elim (hne p hp) (fun ⟨q, hq, e⟩ => e ▸ Nat.ne_of_lt (Heap.lt_size (N q hq).1)))
    have out : LoopStepU h₀ env.locals [s.heap.objs.size] own (J (i + 1)) s₁ .next { s₁ with heap := h', toks := tk } := by
      refine ⟨rfl, h', tk, m', nx.filter (fun p => decide (p.1 ≠ s.heap.objs.size)), rfl, F', fun p hp => ?_, fun p hp hq => ?_, hJ _ _ _ _ hJ' sub⟩
      · rcases List.mem_append.mp hp with hp | hp
        · rw [hown' p hp]; exact N' _ hit
        · exact N' _ (List.mem_filter.mp hp).1
      · exact filt_ne p hp (List.mem_singleton.mp hq)
    rcases hf with rfl | rfl
    · exact .next out
    · exact .cont out
  · rintro h' tk m' news' F' N' _ hJ
    exact done m' news' h' tk hJ F' N'
end
end Mine
end
section
open PySem PySem.W PyProof.Rows PySem.Calls PySem.Spec
set_option Elab.async false
set_option maxRecDepth 100000
namespace Mine
theorem fs_tail {w : World} {A : Around} {E : Value → Shared → Prop} {s : Shared} {value slice : Expr} {x : Addr} {o : Obj} {i : Value} {Q : Value → Shared → Prop} (X : (Mine.hd.heap_1 w.params).In s.heap) (hx : s.heap.get? x = some o) (hc : o.cls = .ref 72)
    (hg : wpAny (model PySem.Challenge.rw_in0194_01.row.prog w) A (getItem (.ref x) i) Q E s)
    (hs : subscripted slice false (.ref x) i = operate [.ref x, i] (getItem (.ref x) i) := by with_unfolding_all rfl) : wpAny (model PySem.Challenge.rw_in0194_01.row.prog w) A (subscriptTail value slice (.ref x) i) Q E s := by
  have Y := fd_of (M := model PySem.Challenge.rw_in0194_01.row.prog w) X
  have sp : Looks (model PySem.Challenge.rw_in0194_01.row.prog w) s.heap (specialOf (.ref x) "__getitem__") (some (.builtin "dict.__getitem__")) := (Y.ty hx hc).andThen Y.getitem
  unfold subscriptTail
  refine wpAny_bind ?_
  unfold getitemInPython
  refine wpAny_bind (sp.here ?_)
  refine wpAny_pure ?_
  refine wpAny_bind ?_
  rw [hs]
  exact wpAny_operating (wpAny_mono hg (fun r s₃ h₃ => wpAny_bind (wpAny_letTemporaryGo (wpAny_pure h₃))) fun _ _ x => x)
end Mine
end
section
open PySem PySem.W PyProof.Rows PySem.Calls PySem.Spec
set_option Elab.async false
namespace Mine
set_option maxRecDepth 100000
noncomputable abbrev shDat (sh : List (Str × Str)) : Dat := .list (sh.map fun p => .tuple [.str p.1, .str p.2])
structure ST (w : World) (fz : Bool) (x1 d1 x2 d2 : Addr) (kv1 kv2 : List (Str × Value)) (T : List (Str × Int)) (M : List (Str × List Str)) (news : List (Addr × Obj)) : Prop where
  f1 : FS w fz x1 d1 (.type "int") kv1 news
  v1 : KV IV kv1 T
  f2 : FS w fz x2 d2 (.type "list") kv2 news
  v2 : KV (LV news) kv2 M
  nd : (kv2.map (·.2)).Nodup

noncomputable def foldT (sh : List (Str × Str)) (size : Int) (T : List (Str × Int)) : List (Str × Int) := sh.foldl (fun T p => addT T p.1 size) T
noncomputable def foldM (fz : Bool) (sh : List (Str × Str)) (M : List (Str × List Str)) : List (Str × List Str) := sh.foldl (fun M p => addM fz M p.1 p.2) M
theorem addT_len (T : List (Str × Int)) (k : Str) (s : Int) : (addT T k s).length ≤ T.length + 1 := aput_len _ _ _
theorem addM_len (fz : Bool) (M : List (Str × List Str)) (k e : Str) : (addM fz M k e).length ≤ M.length + 1 := by
  unfold addM
  split
  · exact aput_len _ _ _
  · split
    · exact Nat.le_succ _
    · simp
theorem addM_lens {b : Nat} (fz : Bool) (M : List (Str × List Str)) (k e : Str) (h : ∀ p ∈ M, p.2.length ≤ b) : ∀ p ∈ addM fz M k e, p.2.length ≤ b + 1 := by
  intro p hp
  unfold addM at hp
  split at hp
  · rename_i l hl
    have hlm : l.length ≤ b := by
      unfold aget at hl
      obtain ⟨q, hq, rfl⟩ := Option.map_eq_some_iff.mp hl
      exact h q (List.mem_of_find?_eq_some hq)
    unfold aput at hp
    split at hp
    · obtain ⟨q, hq, rfl⟩ := List.mem_map.mp hp
      split
      · simp only [List.length_append, List.length_cons, List.length_nil]; omega
      · exact Nat.le_succ_of_le (h q hq)
    · rcases List.mem_append.mp hp with hp | hp
      · exact Nat.le_succ_of_le (h p hp)
      · rw [List.mem_singleton.mp hp]; simp only [List.length_append, List.length_cons, List.length_nil]; omega
  · split at hp
    · exact Nat.le_succ_of_le (h p hp)
    · rcases List.mem_append.mp hp with hp | hp
      · exact Nat.le_succ_of_le (h p hp)
      · rw [List.mem_singleton.mp hp]; simp
theorem foldT_len (sh : List (Str × Str)) (size : Int) (T : List (Str × Int)) : (foldT sh size T).length ≤ T.length + sh.length := by
  induction sh generalizing T with
  | nil => simp [foldT]
  | cons p r ih =>
    have h1 := ih (addT T p.1 size)
    have h2 := addT_len T p.1 size
    simp only [foldT, List.foldl_cons, List.length_cons] at h1 ⊢
    omega
theorem foldM_len (fz : Bool) (sh : List (Str × Str)) (M : List (Str × List Str)) : (foldM fz sh M).length ≤ M.length + sh.length := by
  induction sh generalizing M with
  | nil => simp [foldM]
  | cons p r ih =>
    have h1 := ih (addM fz M p.1 p.2)
    have h2 := addM_len fz M p.1 p.2
    simp only [foldM, List.foldl_cons, List.length_cons] at h1 ⊢
    omega
theorem foldM_lens {b : Nat} (fz : Bool) (sh : List (Str × Str)) (M : List (Str × List Str)) (h : ∀ p ∈ M, p.2.length ≤ b) : ∀ p ∈ foldM fz sh M, p.2.length ≤ b + sh.length := by
  induction sh generalizing M b with
  | nil => simpa [foldM] using h
  | cons p r ih =>
    have h1 := ih (b := b + 1) (addM fz M p.1 p.2) (addM_lens fz M p.1 p.2 h)
    simp only [foldM, List.foldl_cons, List.length_cons] at h1 ⊢
    intro q hq
    have := h1 q hq
    omega
theorem take_succ_fold {α β : Type} (l : List α) (i : Nat) (x : α) (f : β → α → β) (z : β) (h : l[i]? = some x) : (l.take (i + 1)).foldl f z = f ((l.take i).foldl f z) x := by
  rw [List.take_add_one, h]; simp
theorem refs_in {news : List (Addr × Obj)} {kvs : List (Str × Value)} {M : List (Str × List Str)} (V : KV (LV news) kvs M) {r : Addr} (h : Value.ref r ∈ kvs.map (·.2)) : ∃ vs c, (r, listOf vs c) ∈ news := by
  induction V with
  | nil => cases h
  | cons h1 _ ih =>
    rw [List.map_cons] at h
    rcases List.mem_cons.mp h with e | h
    · obtain ⟨r', vs, c, e', hm, _⟩ := h1
      dsimp only at e
      rw [e'] at e; cases e
      exact ⟨_, _, hm⟩
    · exact ih h
theorem ST.sub {w : World} {fz : Bool} {x1 d1 x2 d2 : Addr} {kv1 kv2 : List (Str × Value)} {T : List (Str × Int)} {M : List (Str × List Str)} {nx nx' : List (Addr × Obj)} (S : ST w fz x1 d1 x2 d2 kv1 kv2 T M nx)
    (hs : ∀ p ∈ nx, NotIt p.2 → p ∈ nx') : ST w fz x1 d1 x2 d2 kv1 kv2 T M nx' := by
  have hk : ∀ {x dx fac}, ∀ q ∈ nx, (q.1 = x ∧ ∃ es n, q.2 = fdd fac dx es n) ∨ (q.1 = dx ∧ ∃ es n, q.2.data = .dict es n) ∨ Stable q.2 → q ∈ nx' := fun q hq h => hs q hq (by
    rcases h with ⟨_, es, n, e⟩ | ⟨_, es, n, e⟩ | h
    · rw [e]; exact fun _ _ _ e => nomatch e
    · intro _ _ _ e2; rw [e] at e2; cases e2
    · exact h.2.2)
  exact ⟨S.f1.keep hk, S.v1, S.f2.keep hk, S.v2.mono fun v b ⟨r, vs, c, e, hm, h⟩ => ⟨r, vs, c, e, hs _ hm (fun _ _ _ e => nomatch e), h⟩, S.nd⟩

theorem FS.apart {w : World} {fz : Bool} {x dx y dy : Addr} {fac fac' : Value} {kvs : List (Str × Value)} {es' : Array DictEntry} {n' : Nat} {news : List (Addr × Obj)} {h₀ h : Heap} {L : Addr} (N : News h₀ L h news) (S : FS w fz x dx fac kvs news)
    (hy : (y, fdd fac' dy es' n') ∈ news) (hf : fac ≠ fac') : ∀ q ∈ news, (q.1 = x ∧ ∃ es n, q.2 = fdd fac dx es n) ∨ (q.1 = dx ∧ ∃ es n, q.2.data = .dict es n) ∨ Stable q.2 → q.1 ≠ y := by
  obtain ⟨hb, es, n, hx, D, hd⟩ := S
  have hdx : ∃ o, (dx, o) ∈ news ∧ o.cls = .type "dict" := by
    cases fz with
    | false => simp only [Bool.false_eq_true, if_false] at hd; exact ⟨_, hd, rfl⟩
    | true => simp only [if_true] at hd; obtain ⟨tk, f, nf, h1, _⟩ := hd; exact ⟨_, h1, rfl⟩
  obtain ⟨od, hd1, hd2⟩ := hdx
  intro q hq h e
  rcases h with ⟨e1, _⟩ | ⟨e1, _⟩ | h
  · exact news_ne' N hx hy (fun e => hf (by injection e with _ _ _ e4; injection e4 with e4; injection e4 with e4 _; injection e4)) (e1.symm.trans e)
  · exact news_ne' N hd1 hy (fdd_ne_dict _ _ _ _ _ hd2) (e1.symm.trans e)
  · exact news_ne N (a := q.1) (o := q.2) hq hy (h.1 _ _) e
theorem kvl_keep {h₀ h : Heap} {L : Addr} {news news' : List (Addr × Obj)} {kvs : List (Str × Value)} {M : List (Str × List Str)} (V : KV (LV news) kvs M) (hk : ∀ q ∈ news, (∃ xs n, q.2 = listOf xs n) → q ∈ news') : KV (LV news') kvs M :=
  V.mono fun _ _ ⟨r, vs, c, e, hm, h⟩ => ⟨r, vs, c, e, hk _ hm ⟨_, _, rfl⟩, h⟩
set_option maxHeartbeats 1000000 in
theorem put_core (w : World) (fz : Bool) (x1 d1 x2 d2 : Addr) (kv1 kv2 : List (Str × Value)) (T₀ : List (Str × Int)) (M₀ : List (Str × List Str)) (place : Str) (t t2 : Tok) (size : Int) (sh : List (Str × Str)) (b : Nat)
  (C229 : Make1 w 20 229 [.str place t] noPre (fun tl v => DatIn tl v (shDat sh)))
  (p : Program) (loose : List Str) (mean : ExcName → Option Value) (mg mb : Str → Option Value) (dp un : Nat) (gd : Option (List Code)) (cn : Str) (cs : Scope) (a : Addr) (ccd : Value) (cl : List (Str × Addr)) (outer : List Env) (A₀ : Around) (base h₀ : Heap) (L : Addr) (m : Str → Option Value) (news : List (Addr × Obj)) (s : Shared) (Q E : Value → Shared → Prop)
  (B : Below A₀ base outer h₀) (F : Fr h₀ L s.heap m) (X : (Mine.hd.heap_1 w.params).In h₀) (N : News h₀ L s.heap news) (T : Top p loose mean mg mb h₀) (hk : cs.kind = .function)
  (hdp : dp + 22 < recursionLimit) (hun : un + 8 * 22 < cLine) (S : ST w fz x1 d1 x2 d2 kv1 kv2 T₀ M₀ news) (hb1 : T₀.length + sh.length ≤ 1000000) (hb2 : M₀.length + sh.length ≤ 1000000) (hb3 : ∀ p ∈ M₀, p.2.length ≤ b) (hb4 : b + sh.length ≤ 1000000)
  (hret : ∀ h' tk' news' kv1' kv2', ST w fz x1 d1 x2 d2 kv1' kv2' (foldT sh size T₀) (foldM fz sh M₀) news' → (∀ v ∈ kv2.map (·.2), v ∈ kv2'.map (·.2)) → (∀ q ∈ news, q.1 ≠ x1 → q.1 ≠ x2 → Value.ref q.1 ∉ kv2.map (·.2) → q ∈ news') →
    (∀ r, Value.ref r ∈ kv2'.map (·.2) → Value.ref r ∈ kv2.map (·.2) ∨ ∀ q ∈ news, q.1 < r) → Fr h₀ L h' m → News h₀ L h' news' → Q .none { s with heap := h', toks := tk' }) :
      wpAny (model PySem.Challenge.rw_in0194_01.row.prog w) (ktrTop dp un gd cn cs L a ccd cl outer) (call (.ref 236) [.ref x1, .ref x2, .str place t, .int size t2]) Q E s := by
  (refine wpAny_call ?_; k_dflt (refine' code_def ?k1 ?k2 ?k3 ?k4 ?k5 ?kA ?kF ?kK ?k6 ?k7 ?k8 ?k9 ?kB ?_ ?c2 ?c3 ?c4 ?c5; (case kA => exact rfl); (case kF => exact rfl); (case kK => assumption); (case k1 => k_asm); (case k2 => k_asm); (case k3 => k_asm); (case k4 => k_asm); (case k5 => k_asm); (case k6 => k_is); (case k7 => k_is); (case k8 => ktr_room); (case k9 => exact BindsTo.of_eq rfl); (case c5 => decide); (case kB => exact locs rfl); (case c2 => exact rfl); (case c3 => exact rfl); (case c4 => exact rfl); k_whole))
  intro g' L' h' FG' F' N' B' X' T'
  (try dsimp only)
  (try k_fold)
  refine wpAny_execs_cons ?_
  refine For_invTF F' ?_ ?_
  k_steps
  refine make_use B' F' X' N' T' rfl C229 (by ktr_room) (by ktr_units) True.intro ?_
  intro v tl h2 tk2 hR F2 N2 l2
  cases hR with
  | @list l vs nn ds hl hall =>
  have hlm : (l, listOf vs.toArray nn) ∈ tl ++ news := List.mem_append_left _ hl
  have hx1 : ∃ o, (x1, o) ∈ news := let ⟨_, _, hx, _⟩ := S.f1.at_; ⟨_, hx⟩
  have hx2 : ∃ o, (x2, o) ∈ news := let ⟨_, _, hx, _⟩ := S.f2.at_; ⟨_, hx⟩
  obtain ⟨o1, hx1⟩ := hx1
  obtain ⟨o2, hx2⟩ := hx2
  have hT : ∀ q ∈ tl, q.1 ≠ x1 ∧ q.1 ≠ x2 ∧ Value.ref q.1 ∉ kv2.map (·.2) := fun q hq => by
    refine ⟨Nat.ne_of_gt (l2 _ hx1 q hq), Nat.ne_of_gt (l2 _ hx2 q hq), fun hr => ?_⟩
    obtain ⟨vs, c, hm⟩ := refs_in S.v2 hr
    exact Nat.lt_irrefl _ (l2 _ hm q hq)
  refine mlist_iter (fun i m nx => ∃ kv1' kv2', ST w fz x1 d1 x2 d2 kv1' kv2' (foldT (sh.take i) size T₀) (foldM fz (sh.take i) M₀) nx ∧ m "sums" = some (.ref x1) ∧ m "lists" = some (.ref x2) ∧ (∃ t, m "size" = some (.int size t)) ∧
    (∀ q ∈ tl ++ news, q.1 ≠ x1 → q.1 ≠ x2 → Value.ref q.1 ∉ kv2.map (·.2) → q ∈ nx) ∧ (∀ r, Value.ref r ∈ kv2'.map (·.2) → Value.ref r ∈ kv2.map (·.2) ∨ ∀ q ∈ tl ++ news, q.1 < r) ∧ (∀ v ∈ kv2.map (·.2), v ∈ kv2'.map (·.2))) rfl hlm F2 N2 ?_ ?_ ?_ ?_
  · rintro i m nx nx' ⟨kv1', kv2', S', e1, e2, e3, e4, e5, e6⟩ hs
    exact ⟨kv1', kv2', S'.sub fun p hp hn => hs p hp (.inl hn), e1, e2, e3, fun q hq q1 q2 q3 => hs q (e4 q hq q1 q2 q3) (.inr hq), e5, e6⟩
  · exact ⟨kv1, kv2, S.sub fun p hp _ => List.mem_append_right _ hp, rfl, rfl, ⟨_, rfl⟩, fun q hq _ _ _ => hq, fun r hr => .inl hr, fun v hv => hv⟩
  · intro i v m₁ nx s₁ it hv hIt hl₁ hJ F₁ N₁
    obtain ⟨kv1', kv2', S', e1, e2, ⟨tz, e3⟩, e4, e5, e6⟩ := hJ
    have hlen := hall.length
    have hi : i < sh.length := by
      have h1 : i < vs.length := (List.getElem?_eq_some_iff.mp hv).1
      rw [hlen] at h1; simpa using h1
    obtain ⟨v', hv', hdat⟩ := hall.get (k := i) (by simpa using hi)
    rw [hv] at hv'
    cases hv'
    rw [List.getElem_map] at hdat
    have hshi : sh[i]? = some sh[i] := List.getElem?_eq_getElem hi
    generalize sh[i] = ke at hdat hshi
    obtain ⟨key, entry⟩ := ke
    have hTi := take_succ_fold sh i _ (fun T p => addT T p.1 size) T₀ hshi
    have hMi := take_succ_fold sh i _ (fun M p => addM fz M p.1 p.2) M₀ hshi
    have lT : (foldT (sh.take i) size T₀).length ≤ 1000000 := by
      have := foldT_len (sh.take i) size T₀
      rw [List.length_take] at this; omega
    have lM : (foldM fz (sh.take i) M₀).length ≤ 1000000 := by
      have := foldM_len fz (sh.take i) M₀
      rw [List.length_take] at this; omega
    have lL : ∀ p ∈ foldM fz (sh.take i) M₀, p.2.length ≤ 1000000 := fun p hp => by
      have := foldM_lens fz (sh.take i) M₀ hb3 p hp
      rw [List.length_take] at this; omega
    cases hdat with
    | @tuple at_ vs2 n2 ds2 hta hall2 =>
    cases hall2 with
    | cons q1 r1 =>
    cases q1 with
    | str _ tk5 =>
    cases r1 with
    | cons q2 r2 =>
    cases q2 with
    | str _ tk6 =>
    cases r2 with
    | nil =>
    have htn : (at_, ({ cls := .type "tuple", data := .seq [Value.str key tk5, Value.str entry tk6].toArray n2 } : Obj)) ∈ nx := e4 _ (List.mem_append_left _ hta) (hT _ hta).1 (hT _ hta).2.1 (hT _ hta).2.2
    have hm : m₁ = (fun (y : Str) => if y = ("sums" : Str) then some (.ref x1) else if y = ("lists" : Str) then some (.ref x2) else if y = ("size" : Str) then some (.int size tz) else m₁ y) := by
      funext y
      by_cases c1 : y = ("sums" : Str)
      · rw [if_pos c1, c1, e1]
      · rw [if_neg c1]
        by_cases c2 : y = ("lists" : Str)
        · rw [if_pos c2, c2, e2]
        · rw [if_neg c2]
          by_cases c3 : y = ("size" : Str)
          · rw [if_pos c3, c3, e3]
          · rw [if_neg c3]
    rw [hm] at F₁
    have N₃ := news_sub (b := (at_, _) :: it :: nx) N₁ (fun q hq => by
      rcases List.mem_cons.mp hq with rfl | hq
      · exact .tail _ htn
      · exact hq)
    k_steps
    have S3 := S'.sub (nx' := (at_, { cls := .type "tuple", data := .seq [Value.str key tk5, Value.str entry tk6].toArray n2 }) :: it :: nx) (fun p hp _ => .tail _ (.tail _ hp))
    have z1 : kv1'.length ≤ 1000000 := by rw [S'.v1.length]; exact lT
    have z2 : kv2'.length ≤ 1000000 := by rw [S'.v2.length]; exact lM
    rename News _ _ _ _ => NZ
    obtain ⟨es1, ns1, hxm1, _, _⟩ := S3.f1.at_
    obtain ⟨es2, ns2, hxm2, _, _⟩ := S3.f2.at_
    have hap := S3.f2.apart NZ hxm1 (by intro e; injection e with e; exact absurd e (by decide))
    have hap2 := S3.f1.apart NZ hxm2 (by intro e; injection e with e; exact absurd e (by decide))
    have hls1 : ∀ q ∈ (at_, ({ cls := .type "tuple", data := .seq [Value.str key tk5, Value.str entry tk6].toArray n2 } : Obj)) :: it :: nx, (∃ xs n, q.2.data = .seq xs n) → q.1 ≠ x1 := fun q hq ⟨xs, c, e⟩ => news_ne NZ (a := q.1) (o := q.2) hq hxm1 (by rw [e]; intro e; cases e)
    have hls2 : ∀ q ∈ (at_, ({ cls := .type "tuple", data := .seq [Value.str key tk5, Value.str entry tk6].toArray n2 } : Obj)) :: it :: nx, (∃ xs n, q.2.data = .seq xs n) → q.1 ≠ x2 := fun q hq ⟨xs, c, e⟩ => news_ne NZ (a := q.1) (o := q.2) hq hxm2 (by rw [e]; intro e; cases e)
    have hit1 : it.1 ≠ x1 := news_ne NZ (a := it.1) (o := it.2) (.tail _ (.head _)) hxm1 (by obtain ⟨_, _, _, e, _⟩ := hIt; rw [e]; intro e; cases e)
    have hit2 : it.1 ≠ x2 := news_ne NZ (a := it.1) (o := it.2) (.tail _ (.head _)) hxm2 (by obtain ⟨_, _, _, e, _⟩ := hIt; rw [e]; intro e; cases e)
    refine sum_get w fz x1 d1 key tk5 p loose mean mg mb _ _ _ _ _ _ _ _ _ _ _ _ _ _ _ _ _ _ kv1' _ B' (by k_asm) X' NZ T' rfl (by ktr_room) (by ktr_units) S3.f1 S3.v1 (by rw [sizeLine_eq]; omega) ?_
    intro t7 h7 tk7 nx7 kv7 S7 hput hlen7 hkeep7 F7 N7
    k_steps
    refine fs_setItem w fz x1 d1 (.type "int") kv7 key tk5 _ _ g' _ _ nx7 _ _ _ (by k_asm) X' (by k_asm) S7 (by rw [sizeLine_eq]; omega) ?_
    intro h8 tk8 nx8 S8 hkeep8 F8 N8
    rw [hput] at S8
    obtain ⟨kv9, S9⟩ : ∃ kv9, ST w fz x1 d1 x2 d2 kv9 kv2' (foldT (sh.take (i + 1)) size T₀) (foldM fz (sh.take i) M₀) nx8 := by
      refine ⟨_, S8, ?_, S3.f2.keep fun q hq h => ?_, kvl_keep (h₀ := g') (h := h8) (L := L') S3.v2 fun q hq ⟨xs, c, e⟩ => ?_, S'.nd⟩
      · unfold foldT; rw [hTi]
        exact S'.v1.put ⟨_, rfl⟩
      · have := hap q hq h
        exact hkeep8 q (hkeep7 q hq this) this
      · have : q.1 ≠ x1 := hls1 q hq ⟨xs, c, by rw [e]⟩
        exact hkeep8 q (hkeep7 q hq this) this
    have keep9 : ∀ q ∈ (at_, ({ cls := .type "tuple", data := .seq [Value.str key tk5, Value.str entry tk6].toArray n2 } : Obj)) :: it :: nx, q.1 ≠ x1 → q ∈ nx8 := fun q hq h => hkeep8 q (hkeep7 q hq h) h
    clear S8 S7 hkeep7 hkeep8 N7 F7
    k_steps
    obtain ⟨es3, ns3, hxm3, _, _⟩ := S9.f2.at_
    refine fs_tail (X'.keeps F8.keep) (N8 _ hxm3).1 rfl ?_
    have hap8 := S9.f1.apart N8 hxm3 (by intro e; injection e with e; exact absurd e (by decide))
    have hls8 : ∀ q ∈ nx8, (∃ xs n, q.2.data = .seq xs n) → q.1 ≠ x2 := fun q hq ⟨xs, c, e⟩ => news_ne N8 (a := q.1) (o := q.2) hq hxm3 (by rw [e]; intro e; cases e)
    have hit8 : it ∈ nx8 := keep9 _ (.tail _ (.head _)) hit1
    have hl8 : (l, listOf vs.toArray nn) ∈ nx8 := keep9 _ (.tail _ (.tail _ hl₁)) (hls1 _ (.tail _ (.tail _ hl₁)) ⟨_, _, rfl⟩)
    have hlx2 : l ≠ x2 := (hT _ hl).2.1
    have all8 : ∀ q ∈ tl ++ news, ∃ o, (q.1, o) ∈ nx8 := fun q hq => by
      by_cases c1 : q.1 = x1
      · obtain ⟨es, n, h, _⟩ := S9.f1.at_; exact ⟨_, c1 ▸ h⟩
      · by_cases c2 : q.1 = x2
        · exact ⟨_, c2 ▸ hxm3⟩
        · by_cases c3 : Value.ref q.1 ∈ kv2.map (·.2)
          · obtain ⟨_, _, h⟩ := refs_in S9.v2 (e6 _ c3); exact ⟨_, h⟩
          · exact ⟨_, keep9 _ (.tail _ (.tail _ (e4 q hq c1 c2 c3))) c1⟩
    have kept8 : ∀ q ∈ tl ++ news, q.1 ≠ x1 → q.1 ≠ x2 → Value.ref q.1 ∉ kv2.map (·.2) → q ∈ nx8 := fun q hq c1 c2 c3 => keep9 _ (.tail _ (.tail _ (e4 q hq c1 c2 c3))) c1
    have nk : (kv2'.map (·.1)).Nodup := by obtain ⟨_, _, _, D, _⟩ := S9.f2.at_; exact D.nodup
    refine list_get w fz x2 d2 key tk5 p loose mean mg mb _ _ _ _ _ _ _ _ _ _ _ _ _ _ _ _ _ _ kv2' _ B' (by k_asm) X' N8 T' rfl (by ktr_room) (by ktr_units) S9.f2 S9.v2 (by rw [sizeLine_eq]; omega) ?hit ?new
    case hit =>
      intro r xs c ss tk9 hk1 hk2 hrm hxs
      have N10 := news_bring N8 hrm
      have hrk : Value.ref r ∈ kv2'.map (·.2) := by
        unfold aget at hk1
        obtain ⟨q, hq, e⟩ := Option.map_eq_some_iff.mp hk1
        exact List.mem_map.mpr ⟨q, List.mem_of_find?_eq_some hq, e⟩
      have hss : ss.length ≤ 1000000 := by
        unfold aget at hk2
        obtain ⟨q, hq, rfl⟩ := Option.map_eq_some_iff.mp hk2
        exact lL q (List.mem_of_find?_eq_some hq)
      have hxl : xs.length = ss.length := hxs.length
      have ne_r : ∀ q ∈ nx8, (∀ xs n, q.2.data ≠ .seq xs n) → q.1 ≠ r := fun q hq h => news_ne N8 (a := q.1) (o := q.2) hq hrm (h _ _)
      have hlr : l ≠ r := by
        rcases e5 r hrk with h | h
        · obtain ⟨_, _, hm⟩ := refs_in S.v2 h
          exact Nat.ne_of_gt (l2 _ hm _ hl)
        · exact Nat.ne_of_lt (h _ (List.mem_append_left _ hl))
      k_steps
      refine append_K (by k_asm) N10 (Upd.head filt_ne) ?_ (by rw [sizeLine_eq, List.size_toArray, hxl]; omega)
      intro h11 F11 N11
      rw [List.push_toArray] at N11
      have hmu : ∀ q ∈ nx8, q.1 ≠ r → q ∈ (r, listOf (xs ++ [Value.str entry tk6]).toArray (c + 1)) :: nx8.filter (fun p => decide (p.1 ≠ r)) := fun q hq h => .tail _ (mem_filt hq h)
      have hkf : ∀ {x dx fac}, ∀ q ∈ nx8, (q.1 = x ∧ ∃ es n, q.2 = fdd fac dx es n) ∨ (q.1 = dx ∧ ∃ es n, q.2.data = .dict es n) ∨ Stable q.2 → q ∈ (r, listOf (xs ++ [Value.str entry tk6]).toArray (c + 1)) :: nx8.filter (fun p => decide (p.1 ≠ r)) := fun q hq h => hmu q hq (ne_r q hq (by
        rcases h with ⟨_, es, n, e⟩ | ⟨_, es, n, e⟩ | h
        · rw [e]; exact fun _ _ e => nomatch e
        · rw [e]; exact fun _ _ e => nomatch e
        · exact h.2.1))
      have S11 : ST w fz x1 d1 x2 d2 kv9 kv2' (foldT (sh.take (i + 1)) size T₀) (foldM fz (sh.take (i + 1)) M₀) ((r, listOf (xs ++ [Value.str entry tk6]).toArray (c + 1)) :: nx8.filter (fun p => decide (p.1 ≠ r))) := by
        refine ⟨S9.f1.keep hkf, S9.v1, S9.f2.keep hkf, ?_, S9.nd⟩
        have := KV.listSet (news' := (r, listOf (xs ++ [Value.str entry tk6]).toArray (c + 1)) :: nx8.filter (fun p => decide (p.1 ≠ r))) (b := ss ++ [entry]) S9.v2 nk S9.nd hk1 ⟨r, _, _, rfl, .head _, StrsAre.append' hxs (.cons _ _ .nil)⟩ hmu
        unfold foldM; rw [hMi]
        show KV _ kv2' (addM fz (foldM fz (sh.take i) M₀) key entry)
        unfold addM
        rw [hk2]
        dsimp only
        unfold aput
        rw [if_pos (aget_some_any hk2)]
        exact this
      k_steps
      refine ⟨rfl, h11, _, _, _, rfl, F11, N11, hmu _ hit8 (ne_r _ hit8 (by obtain ⟨_, _, _, e, _⟩ := hIt; rw [e]; exact fun _ _ e => nomatch e)), hmu _ hl8 hlr, kv9, kv2', S11, rfl, rfl, ⟨_, rfl⟩, fun q hq c1 c2 c3 => hmu _ (kept8 q hq c1 c2 c3) (fun e => ?_), e5, e6⟩
      rcases e5 r hrk with h | h
      · exact c3 (e ▸ h)
      · exact Nat.lt_irrefl _ (e ▸ h q hq)
    case new =>
      intro r c h9 tk9 nx9 kv9' hk1 hk2 hkv S10 hrm hrlt hkeep10 F10 N10
      have N11 := news_bring N10 hrm
      k_steps
      refine append_K (by k_asm) N11 (Upd.head filt_ne) ?_ (by rw [sizeLine_eq]; decide)
      intro h11 F11 N12
      have N13 : News g' L' h11 ((r, listOf [Value.str entry tk6].toArray (c + 1)) :: nx9.filter (fun p => decide (p.1 ≠ r))) := N12
      have hmu : ∀ q ∈ nx9, q.1 ≠ r → q ∈ (r, listOf [Value.str entry tk6].toArray (c + 1)) :: nx9.filter (fun p => decide (p.1 ≠ r)) := fun q hq h => .tail _ (mem_filt hq h)
      have hm8 : ∀ q ∈ nx8, q.1 ≠ x2 → q ∈ (r, listOf [Value.str entry tk6].toArray (c + 1)) :: nx9.filter (fun p => decide (p.1 ≠ r)) := fun q hq h => hmu q (hkeep10 q hq h) (Nat.ne_of_lt (hrlt q hq))
      have ne_r : ∀ q ∈ nx9, (∀ xs n, q.2.data ≠ .seq xs n) → q.1 ≠ r := fun q hq h => news_ne N10 (a := q.1) (o := q.2) hq hrm (h _ _)
      have hrefs : ∀ r', Value.ref r' ∈ kv9'.map (·.2) → Value.ref r' ∈ kv2'.map (·.2) ∨ r' = r := fun r' h => by
        rw [hkv] at h
        split at h
        · exact .inl h
        · rw [aput_new hk1, List.map_append] at h
          rcases List.mem_append.mp h with h | h
          · exact .inl h
          · exact .inr (by simpa using h)
      have hrefs2 : ∀ v ∈ kv2'.map (·.2), v ∈ kv9'.map (·.2) := fun v h => by
        rw [hkv]
        split
        · exact h
        · rw [aput_new hk1, List.map_append]; exact List.mem_append_left _ h
      have hnr : Value.ref r ∉ kv2'.map (·.2) := fun h => by
        obtain ⟨_, _, hm⟩ := refs_in S9.v2 h
        exact Nat.lt_irrefl _ (hrlt _ hm)
      have V0 : KV (LV ((r, listOf [Value.str entry tk6].toArray (c + 1)) :: nx9.filter (fun p => decide (p.1 ≠ r)))) kv2' (foldM fz (sh.take i) M₀) :=
        S9.v2.mono fun _ _ ⟨r', xs, c', e, hm, h⟩ => ⟨r', xs, c', e, hm8 _ hm (hls8 _ hm ⟨_, _, rfl⟩), h⟩
      have S11 : ST w fz x1 d1 x2 d2 kv9 kv9' (foldT (sh.take (i + 1)) size T₀) (foldM fz (sh.take (i + 1)) M₀) ((r, listOf [Value.str entry tk6].toArray (c + 1)) :: nx9.filter (fun p => decide (p.1 ≠ r))) := by
        refine ⟨S9.f1.keep (fun q hq h => hm8 q hq (hap8 q hq h)), S9.v1, S10.keep (fun q hq h => hmu q hq (ne_r q hq ?_)), ?_, ?_⟩
        · rcases h with ⟨_, es, n, e⟩ | ⟨_, es, n, e⟩ | h
          · rw [e]; exact fun _ _ e => nomatch e
          · rw [e]; exact fun _ _ e => nomatch e
          · exact h.2.1
        · unfold foldM; rw [hMi]
          show KV _ kv9' (addM fz (foldM fz (sh.take i) M₀) key entry)
          unfold addM
          rw [hk2, hkv]
          dsimp only
          cases fz with
          | true => exact V0
          | false =>
            simp only [Bool.false_eq_true, if_false]
            rw [← aput_new hk2]
            exact V0.put ⟨r, _, _, rfl, .head _, .cons _ _ .nil⟩
        · rw [hkv]
          split
          · exact S9.nd
          · rw [aput_new hk1, List.map_append, List.nodup_append]
            refine ⟨S9.nd, by simp, ?_⟩
            intro a ha b hb e
            simp only [List.map_cons, List.map_nil, List.mem_singleton] at hb
            subst hb; subst e
            exact hnr ha
      k_steps
      refine ⟨rfl, h11, _, _, _, rfl, F11, N13, hm8 _ hit8 hit2, hm8 _ hl8 hlx2, kv9, kv9', S11, rfl, rfl, ⟨_, rfl⟩, fun q hq c1 c2 c3 => hm8 _ (kept8 q hq c1 c2 c3) c2, ?_, fun v hv => hrefs2 v (e6 v hv)⟩
      intro r' hr'
      rcases hrefs r' hr' with h | rfl
      · exact e5 r' h
      · refine .inr fun q hq => ?_
        obtain ⟨o, ho⟩ := all8 q hq
        exact hrlt (q.1, o) ho
  · rintro m₁ nx h3 tk3 ⟨kv1', kv2', S', e1, e2, e3, e4, e5, e6⟩ F3 N3
    have hlen := hall.length
    rw [List.length_map] at hlen
    rw [hlen, List.take_length] at S'
    k_steps
    exact hret _ _ _ _ _ S' e6 (fun q hq q1 q2 q3 => e4 q (List.mem_append_right _ hq) q1 q2 q3) (fun r hr => (e5 r hr).imp id fun h q hq => h q (List.mem_append_right _ hq)) (by k_asm) (by k_asm)
end Mine
end
section
open PySem PySem.W PyProof.Rows PySem.Calls PySem.Spec
set_option Elab.async false
namespace Mine

set_option maxRecDepth 100000
structure DS (w : World) (y1 y2 : Addr) (kv1 kv2 : List (Str × Value)) (T : List (Str × Int)) (M : List (Str × List Str)) (news : List (Addr × Obj)) : Prop where
  d1 : ∃ o1, (y1, o1) ∈ news ∧ o1.IsDictOf (PySem.strKind PySem.Challenge.rw_in0194_01.row.prog w) kv1
  d2 : ∃ o2, (y2, o2) ∈ news ∧ o2.IsDictOf (PySem.strKind PySem.Challenge.rw_in0194_01.row.prog w) kv2
  lo1 : (y1 == sysModules) = false
  lo2 : (y2 == sysModules) = false
  ne : y1 ≠ y2
  v1 : KV IV kv1 T
  v2 : KV (LV news) kv2 M
theorem dict_data {w : World} {o : Obj} {kvs : List (Str × Value)} (h : o.IsDictOf (PySem.strKind PySem.Challenge.rw_in0194_01.row.prog w) kvs) : ∃ es n, o.data = .dict es n := by
  obtain ⟨es, ep, _, h, _⟩ := h
  exact ⟨_, _, h⟩
theorem DS.sub {w : World} {y1 y2 : Addr} {kv1 kv2 : List (Str × Value)} {T : List (Str × Int)} {M : List (Str × List Str)} {nx nx' : List (Addr × Obj)} (S : DS w y1 y2 kv1 kv2 T M nx) (hs : ∀ p ∈ nx, NotIt p.2 → p ∈ nx') : DS w y1 y2 kv1 kv2 T M nx' := by
  obtain ⟨⟨o1, h1, k1⟩, ⟨o2, h2, k2⟩, l1, l2, ne, v1, v2⟩ := S
  refine ⟨⟨o1, hs _ h1 ?_, k1⟩, ⟨o2, hs _ h2 ?_, k2⟩, l1, l2, ne, v1, v2.mono fun v b ⟨r, vs, c, e, hm, h⟩ => ⟨r, vs, c, e, hs _ hm (fun _ _ _ e => nomatch e), h⟩⟩
  · obtain ⟨es, n, e⟩ := dict_data k1; intro _ _ _ e2; rw [e] at e2; cases e2
  · obtain ⟨es, n, e⟩ := dict_data k2; intro _ _ _ e2; rw [e] at e2; cases e2
theorem memN2 {α : Type} {a b c f : α} {r : List α} (h : f ∈ r) : f ∈ a :: b :: c :: r := .tail _ (.tail _ (.tail _ h))
theorem allLt_lt0 {d : Addr} {l : List (Addr × Obj)} (h : AllLt d l) : ∀ p ∈ l, p.1 < d := by
  induction l with
  | nil => intro p hp; cases hp
  | cons q r ih =>
    intro p hp
    obtain ⟨h1, h2⟩ := h
    rcases List.mem_cons.mp hp with rfl | hp
    · exact h1
    · exact ih h2 p hp
theorem aput_vals {α : Type} {T : List (Str × α)} {k : Str} {v u : α} (h : u ∈ (aput T k v).map (·.2)) : u ∈ T.map (·.2) ∨ u = v := by
  unfold aput at h
  split at h
  · obtain ⟨p, hp, rfl⟩ := List.mem_map.mp h
    obtain ⟨q, hq, rfl⟩ := List.mem_map.mp hp
    by_cases e : q.1 = k
    · right; simp [e]
    · left; simp only [e, if_false]; exact List.mem_map.mpr ⟨q, hq, rfl⟩
  · rw [List.map_append] at h
    rcases List.mem_append.mp h with h | h
    · exact .inl h
    · exact .inr (by simpa using h)
set_option maxHeartbeats 1000000 in
theorem due_core (w : World) (early : Bool) (y1 y2 nl : Addr) (kv1 kv2 : List (Str × Value)) (T₀ : List (Str × Int)) (M₀ : List (Str × List Str)) (names : List Str) (t2 : Tok) (size : Int) (sh : List (Str × Str)) (b : Nat)
  (C250 : Make1 w 20 250 [.ref nl] (fun news => DatIn news (.ref nl) (.list (names.map .str))) (fun tl v => DatIn tl v (shDat sh)))
  (p : Program) (loose : List Str) (mean : ExcName → Option Value) (mg mb : Str → Option Value) (dp un : Nat) (gd : Option (List Code)) (cn : Str) (cs : Scope) (a : Addr) (ccd : Value) (cl : List (Str × Addr)) (outer : List Env) (A₀ : Around) (base h₀ : Heap) (L : Addr) (m : Str → Option Value) (news : List (Addr × Obj)) (s : Shared) (Q E : Value → Shared → Prop)
  (B : Below A₀ base outer h₀) (F : Fr h₀ L s.heap m) (X : (Mine.hd.heap_1 w.params).In h₀) (N : News h₀ L s.heap news) (T : Top p loose mean mg mb h₀) (hk : cs.kind = .function)
  (hdp : dp + 22 < recursionLimit) (hun : un + 8 * 22 < cLine) (hn : DatIn news (.ref nl) (.list (names.map .str))) (S : DS w y1 y2 kv1 kv2 T₀ M₀ news) (hb1 : T₀.length + sh.length ≤ 1000000) (hb2 : M₀.length + sh.length ≤ 1000000) (hb3 : ∀ p ∈ M₀, p.2.length ≤ b) (hb4 : b + sh.length ≤ 1000000)
  (hret : ∀ h' tk' news' kv1' kv2', DS w y1 y2 kv1' kv2' (foldT sh size T₀) (foldM (!early) sh M₀) news' → (∀ q ∈ news, q.1 ≠ y1 → q.1 ≠ y2 → q ∈ news') → (∀ r, Value.ref r ∈ kv2'.map (·.2) → Value.ref r ∈ kv2.map (·.2) ∨ ∀ q ∈ news, q.1 < r) → Fr h₀ L h' m → News h₀ L h' news' → Q .none { s with heap := h', toks := tk' }) :
      wpAny (model PySem.Challenge.rw_in0194_01.row.prog w) (ktrTop dp un gd cn cs L a ccd cl outer) (call (.ref 257) [.ref y1, .ref y2, .ref nl, .int size t2, .bool early]) Q E s := by
  (refine wpAny_call ?_; k_dflt (refine' code_def ?k1 ?k2 ?k3 ?k4 ?k5 ?kA ?kF ?kK ?k6 ?k7 ?k8 ?k9 ?kB ?_ ?c2 ?c3 ?c4 ?c5; (case kA => exact rfl); (case kF => exact rfl); (case kK => assumption); (case k1 => k_asm); (case k2 => k_asm); (case k3 => k_asm); (case k4 => k_asm); (case k5 => k_asm); (case k6 => k_is); (case k7 => k_is); (case k8 => ktr_room); (case k9 => exact BindsTo.of_eq rfl); (case c5 => decide); (case kB => exact locs rfl); (case c2 => exact rfl); (case c3 => exact rfl); (case c4 => exact rfl); k_whole))
  intro g' L' h' FG' F' N' B' X' T'
  (try dsimp only)
  (try k_fold)
  refine wpAny_execs_cons ?_
  refine For_invTF F' ?_ ?_
  k_steps
  refine make_use B' F' X' N' T' rfl C250 (by ktr_room) (by ktr_units) hn ?_
  intro v tl h2 tk2 hR F2 N2 l2
  cases hR with
  | @list l vs nn ds hl hall =>
  have hlm : (l, listOf vs.toArray nn) ∈ tl ++ news := List.mem_append_left _ hl
  obtain ⟨o1, hy1, _⟩ := S.d1
  obtain ⟨o2, hy2, _⟩ := S.d2
  have hT : ∀ q ∈ tl, q.1 ≠ y1 ∧ q.1 ≠ y2 := fun q hq => ⟨Nat.ne_of_gt (l2 _ hy1 q hq), Nat.ne_of_gt (l2 _ hy2 q hq)⟩
  refine mlist_iter (fun i m nx => ∃ kv1' kv2', DS w y1 y2 kv1' kv2' (foldT (sh.take i) size T₀) (foldM (!early) (sh.take i) M₀) nx ∧ m "sums" = some (.ref y1) ∧ m "lists" = some (.ref y2) ∧ (∃ t, m "size" = some (.int size t)) ∧ m "early" = some (.bool early) ∧
    (∀ q ∈ tl ++ news, q.1 ≠ y1 → q.1 ≠ y2 → q ∈ nx) ∧ (∀ r, Value.ref r ∈ kv2'.map (·.2) → Value.ref r ∈ kv2.map (·.2) ∨ ∀ q ∈ tl ++ news, q.1 < r)) rfl hlm F2 N2 ?_ ?_ ?_ ?_
  · rintro i m nx nx' ⟨kv1', kv2', S', e1, e2, e3, e4, e5, e6⟩ hs
    exact ⟨kv1', kv2', S'.sub fun p hp hn => hs p hp (.inl hn), e1, e2, e3, e4, fun q hq q1 q2 => hs q (e5 q hq q1 q2) (.inr hq), e6⟩
  · exact ⟨kv1, kv2, S.sub fun p hp _ => List.mem_append_right _ hp, rfl, rfl, ⟨_, rfl⟩, rfl, fun q hq _ _ => hq, fun r hr => .inl hr⟩
  · intro i v m₁ nx s₁ it hv hIt hl₁ hJ F₁ N₁
    obtain ⟨kv1', kv2', S', e1, e2, ⟨tz, e3⟩, e4, e5, e6⟩ := hJ
    have hlen := hall.length
    have hi : i < sh.length := by
      have h1 : i < vs.length := (List.getElem?_eq_some_iff.mp hv).1
      rw [hlen] at h1; simpa using h1
    obtain ⟨v', hv', hdat⟩ := hall.get (k := i) (by simpa using hi)
    rw [hv] at hv'
    cases hv'
    rw [List.getElem_map] at hdat
    have hshi : sh[i]? = some sh[i] := List.getElem?_eq_getElem hi
    generalize sh[i] = ke at hdat hshi
    obtain ⟨key, entry⟩ := ke
    have hTi := take_succ_fold sh i _ (fun T p => addT T p.1 size) T₀ hshi
    have hMi := take_succ_fold sh i _ (fun M p => addM (!early) M p.1 p.2) M₀ hshi
    have lT : (foldT (sh.take i) size T₀).length ≤ 1000000 := by
      have := foldT_len (sh.take i) size T₀
      rw [List.length_take] at this; omega
    have lM : (foldM (!early) (sh.take i) M₀).length ≤ 1000000 := by
      have := foldM_len (!early) (sh.take i) M₀
      rw [List.length_take] at this; omega
    have lL : ∀ p ∈ foldM (!early) (sh.take i) M₀, p.2.length ≤ 1000000 := fun p hp => by
      have := foldM_lens (!early) (sh.take i) M₀ hb3 p hp
      rw [List.length_take] at this; omega
    cases hdat with
    | @tuple at_ vs2 n2 ds2 hta hall2 =>
    cases hall2 with
    | cons q1 r1 =>
    cases q1 with
    | str _ tk5 =>
    cases r1 with
    | cons q2 r2 =>
    cases q2 with
    | str _ tk6 =>
    cases r2 with
    | nil =>
    have htn : (at_, ({ cls := .type "tuple", data := .seq [Value.str key tk5, Value.str entry tk6].toArray n2 } : Obj)) ∈ nx := e5 _ (List.mem_append_left _ hta) (hT _ hta).1 (hT _ hta).2
    have hm : m₁ = (fun (y : Str) => if y = ("sums" : Str) then some (.ref y1) else if y = ("lists" : Str) then some (.ref y2) else if y = ("size" : Str) then some (.int size tz) else if y = ("early" : Str) then some (.bool early) else m₁ y) := by
      funext y
      by_cases c1 : y = ("sums" : Str)
      · rw [if_pos c1, c1, e1]
      · rw [if_neg c1]
        by_cases c2 : y = ("lists" : Str)
        · rw [if_pos c2, c2, e2]
        · rw [if_neg c2]
          by_cases c3 : y = ("size" : Str)
          · rw [if_pos c3, c3, e3]
          · rw [if_neg c3]
            by_cases c4 : y = ("early" : Str)
            · rw [if_pos c4, c4, e4]
            · rw [if_neg c4]
    rw [hm] at F₁
    obtain ⟨p1, hp1, hd1⟩ := S'.d1
    obtain ⟨p2, hp2, hd2⟩ := S'.d2
    have N₃ := news_sub (b := (at_, _) :: (y1, p1) :: (y2, p2) :: it :: nx) N₁ (fun q hq => by
      rcases List.mem_cons.mp hq with rfl | hq
      · exact .tail _ htn
      · rcases List.mem_cons.mp hq with rfl | hq
        · exact .tail _ hp1
        · rcases List.mem_cons.mp hq with rfl | hq
          · exact .tail _ hp2
          · exact hq)
    k_steps
    rename News _ _ _ _ => NZ
    have S3 := S'.sub (nx' := (at_, { cls := .type "tuple", data := .seq [Value.str key tk5, Value.str entry tk6].toArray n2 }) :: (y1, p1) :: (y2, p2) :: it :: nx) (fun p hp _ => .tail _ (.tail _ (.tail _ (.tail _ hp))))
    have z1 : kv1'.length ≤ 1000000 := by rw [S'.v1.length]; exact lT
    have z2 : kv2'.length ≤ 1000000 := by rw [S'.v2.length]; exact lM
    obtain ⟨es1, ns1, hdat1⟩ := dict_data hd1
    obtain ⟨es2, ns2, hdat2⟩ := dict_data hd2
    have hit1 : it.1 ≠ y1 := news_ne NZ (a := it.1) (o := it.2) mem4 mem2 (by obtain ⟨_, _, _, e, _⟩ := hIt; rw [e, hdat1]; intro e; cases e)
    have hit2 : it.1 ≠ y2 := news_ne NZ (a := it.1) (o := it.2) mem4 mem3 (by obtain ⟨_, _, _, e, _⟩ := hIt; rw [e, hdat2]; intro e; cases e)
    have hls1 : ∀ q ∈ nx, (∃ xs n, q.2.data = .seq xs n) → q.1 ≠ y1 := fun q hq ⟨xs, c, e⟩ => news_ne NZ (a := q.1) (o := q.2) (.tail _ (.tail _ (.tail _ (.tail _ hq)))) mem2 (by rw [e, hdat1]; intro e; cases e)
    have hls2 : ∀ q ∈ nx, (∃ xs n, q.2.data = .seq xs n) → q.1 ≠ y2 := fun q hq ⟨xs, c, e⟩ => news_ne NZ (a := q.1) (o := q.2) (.tail _ (.tail _ (.tail _ (.tail _ hq)))) mem3 (by rw [e, hdat2]; intro e; cases e)
    refine kdg_get2 NZ mem2 hd1 S'.lo1 (strKind_is _ _ _ _) _ rfl ?_
    obtain ⟨t8, ht8⟩ : ∃ t8, (valueAt kv1' key).getD (.int 0 tk) = .int ((aget (foldT (sh.take i) size T₀) key).getD 0) t8 := by
      rw [valueAt_eq]
      rcases S'.v1.get key with ⟨a1, a2⟩ | ⟨v, j, a1, a2, t, rfl⟩
      · rw [a1, a2]; exact ⟨_, rfl⟩
      · rw [a1, a2]; exact ⟨_, rfl⟩
    rw [ht8]
    k_steps
    rename News _ _ _ _ => NY
    have NY2 := news_bring NY (x := y1) (o := p1) mem2
    refine kda_set (knd := PySem.strKind _ _) (by k_asm) NY2 (UpdF.head filt_ne) hd1 (strKind_is _ _ _ _) (by rw [sizeLine_eq]; omega) ?_
    intro h8 o8 F8 N8 hd8
    rw [stored_eq] at hd8
    obtain ⟨kv9, hd9, hv9⟩ : ∃ kv9, o8.IsDictOf (PySem.strKind PySem.Challenge.rw_in0194_01.row.prog w) kv9 ∧ KV IV kv9 (foldT (sh.take (i + 1)) size T₀) := by
      refine ⟨_, hd8, ?_⟩
      unfold foldT; rw [hTi]
      exact S'.v1.put ⟨_, rfl⟩
    clear hd8 NY NY2
    have hin : ∀ q ∈ nx, q.1 ≠ y1 → q ∈ (y2, p2) :: (y1, o8) :: it :: nx.filter (fun p => decide (p.1 ≠ y1)) := fun q hq h => .tail _ (.tail _ (.tail _ (mem_filt hq h)))
    have NW := news_sub (b := (y2, p2) :: (y1, o8) :: it :: nx.filter (fun p => decide (p.1 ≠ y1))) N8 (fun q hq => by
      rcases List.mem_cons.mp hq with rfl | hq
      · exact .tail _ (mem_filt mem3 S'.ne.symm)
      · rcases List.mem_cons.mp hq with rfl | hq
        · exact .head _
        · rcases List.mem_cons.mp hq with rfl | hq
          · exact .tail _ (mem_filt mem4 hit1)
          · exact .tail _ (mem_filt (.tail _ (.tail _ (.tail _ (.tail _ (List.mem_filter.mp hq).1)))) (List.mem_filter.mp hq |>.2 |> of_decide_eq_true)))
    have hlt : ∀ D : Addr, y2 < D → y1 < D → (∀ q ∈ nx.filter (fun p => decide (p.1 ≠ y1)), q.1 < D) → ∀ q ∈ tl ++ news, q.1 < D := fun D g1 g2 g4 q hq => by
      by_cases c1 : q.1 = y1
      · rw [c1]; exact g2
      · by_cases c2 : q.1 = y2
        · rw [c2]; exact g1
        · exact g4 q (mem_filt (e5 q hq c1 c2) c1)
    generalize hnw : nx.filter (fun p => decide (p.1 ≠ y1)) = nxw at *
    clear N8
    k_steps
    rotate_left
    refine kda_in NW mem1 hd2 S'.lo2 (strKind_is _ _ _ _) _ rfl ?_
    rw [valueAt_eq]
    rcases S'.v2.get key with ⟨a1, a2⟩ | ⟨v, j, a1, a2, hlv⟩
    · rw [a1]
      k_steps
      have S9 : DS w y1 y2 kv9 kv2' (foldT (sh.take (i + 1)) size T₀) (foldM (!early) (sh.take (i + 1)) M₀) ((y2, p2) :: (y1, o8) :: it :: nxw) := by
        refine ⟨⟨_, mem2, hd9⟩, ⟨_, mem1, hd2⟩, S'.lo1, S'.lo2, S'.ne, hv9, ?_⟩
        unfold foldM; rw [hMi]
        show KV _ kv2' (addM (!early) (foldM (!early) (sh.take i) M₀) key entry)
        unfold addM
        rw [a2]
        have he : early = false := by assumption
        rw [he] at S' ⊢
        exact S'.v2.mono fun _ _ ⟨r, xs, c, e, hm, hx⟩ => ⟨r, xs, c, e, hin _ hm (hls1 _ hm ⟨_, _, rfl⟩), hx⟩
      refine ⟨rfl, h8, _, _, _, rfl, by k_asm, NW, mem3, hin _ hl₁ (hT _ hl).1, kv9, kv2', S9, rfl, rfl, ⟨_, rfl⟩, rfl, fun q hq c1 c2 => hin _ (e5 q hq c1 c2) c1, e6⟩
    rw [a1]
    have hor : aget (foldM (!early) (sh.take i) M₀) key = none → early = true := fun h => by rw [a2] at h; cases h
    clear a1 a2 hlv
    dsimp only [Option.isSome]
    clear v
    k_steps
    rotate_left
    have hor : aget (foldM (!early) (sh.take i) M₀) key = none → early = true := fun _ => by assumption
    all_goals (
      rename News _ _ _ _ => NV
      refine kdg_get2 NV mem2 hd2 S'.lo2 (strKind_is _ _ _ _) _ rfl ?_
      rw [valueAt_eq]
      rcases S'.v2.get key with ⟨a1, a2⟩ | ⟨v, j, a1, a2, r, xs, c, rfl, hm, hxs⟩
      · rw [a1]
        dsimp only [Option.getD]
        k_steps
        rename News _ _ _ _ => NE
        rename (_ < _ ∧ _ < _ ∧ y2 < _ ∧ y1 < _ ∧ it.1 < _ ∧ AllLt _ nxw) => hDl0
        have hDl : ∀ q ∈ (y2, p2) :: (y1, o8) :: it :: nxw, q.1 < _ := fun q hq => by
          rcases List.mem_cons.mp hq with rfl | hq
          · exact hDl0.2.2.1
          · rcases List.mem_cons.mp hq with rfl | hq
            · exact hDl0.2.2.2.1
            · rcases List.mem_cons.mp hq with rfl | hq
              · exact hDl0.2.2.2.2.1
              · exact allLt_lt0 hDl0.2.2.2.2.2 q hq
        have hDy := news_ne NE mem1 (mem4 : (y2, p2) ∈ _) (by rw [hdat2]; intro e; cases e)
        have NE2 := news_bring NE (x := y2) (o := p2) mem4
        refine kda_set (knd := PySem.strKind _ _) (by k_asm) NE2 (UpdF.head filt_ne) hd2 (strKind_is _ _ _ _) (by rw [sizeLine_eq]; omega) ?_
        intro h12 o12 F12 N12 hd12
        rw [stored_eq] at hd12
        generalize hLS : (_ :: _ :: _ :: (y2, p2) :: _ : List (Addr × Obj)) = LS at N12
        have hb : ∀ q ∈ (y2, p2) :: (y1, o8) :: it :: nxw, q.1 ≠ y2 → q ∈ (y2, o12) :: LS.filter (fun p => decide (p.1 ≠ y2)) := fun q hq h => .tail _ (mem_filt (hLS ▸ .tail _ (.tail _ (.tail _ hq))) h)
        have hDm := congrArg List.head? hLS.symm
        rw [List.head?_cons] at hDm
        replace hDm := List.mem_of_mem_head? hDm
        clear NE NE2
        k_steps
        obtain ⟨kvF, S9, hkF⟩ : ∃ kvF, DS w y1 y2 kv9 kvF (foldT (sh.take (i + 1)) size T₀) (foldM (!early) (sh.take (i + 1)) M₀) ((y2, o12) :: LS.filter (fun p => decide (p.1 ≠ y2))) ∧ (∀ r, Value.ref r ∈ kvF.map (·.2) → Value.ref r ∈ kv2.map (·.2) ∨ ∀ q ∈ tl ++ news, q.1 < r) := by
          refine ⟨_, ⟨⟨_, hb _ mem2 S'.ne, hd9⟩, ⟨_, mem1, hd12⟩, S'.lo1, S'.lo2, S'.ne, hv9, ?_⟩, fun r hr => (aput_vals hr).elim (e6 r) fun e => .inr (by injection e with e; rw [e]; exact hlt _ (hDl _ (.head _)) (hDl (y1, o8) mem2) fun q hq => hDl q (memN2 hq))⟩
          unfold foldM; rw [hMi]
          show KV _ _ (addM (!early) (foldM (!early) (sh.take i) M₀) key entry)
          unfold addM
          rw [a2]
          have V0 : KV (LV ((y2, o12) :: LS.filter (fun p => decide (p.1 ≠ y2)))) kv2' (foldM (!early) (sh.take i) M₀) :=
            S'.v2.mono fun _ _ ⟨r, xs, c, e, hm, hx⟩ => ⟨r, xs, c, e, hb _ (hin _ hm (hls1 _ hm ⟨_, _, rfl⟩)) (hls2 _ hm ⟨_, _, rfl⟩), hx⟩
          have he := hor a2
          subst he
          dsimp only
          rw [if_neg (by decide), ← aput_new a2]
          exact V0.put ⟨_, _, _, rfl, .tail _ (mem_filt hDm hDy), .cons _ _ .nil⟩
        refine ⟨rfl, h12, _, _, _, rfl, by k_asm, N12, hb _ mem3 hit2, hb _ (hin _ hl₁ (hT _ hl).1) (hT _ hl).2, kv9, kvF, S9, rfl, rfl, ⟨_, rfl⟩, rfl, fun q hq c1 c2 => hb _ (hin _ (e5 q hq c1 c2) c1) c2, hkF⟩
      · rw [a1]
        dsimp only [Option.getD]
        have NU := news_sub (b := (r, listOf xs.toArray c) :: (y2, p2) :: (y1, o8) :: it :: nxw) NV (fun q hq => by
          rcases List.mem_cons.mp hq with rfl | hq
          · exact .tail _ (hin _ hm (hls1 _ hm ⟨_, _, rfl⟩))
          · exact .tail _ hq)
        clear NV
        have hxs' : True ∧ StrsAre xs j := ⟨trivial, hxs⟩
        have hss : xs.length ≤ 1000000 := by
          rw [hxs.length]
          unfold aget at a2
          obtain ⟨q, hq, rfl⟩ := Option.map_eq_some_iff.mp a2
          exact lL q (List.mem_of_find?_eq_some hq)
        repeat ((fail_if_success (with_reducible show wpAny _ _ (binaryOp _ (Value.ref _) (Value.ref _)) _ _ _)); walk1)
        rename News _ _ _ _ => NE
        rename Fr _ _ _ _ => FE
        refine kmk_add_lit (its := xs.toArray) (its2 := #[_]) (zs := xs ++ [_]) FE NE (NE.isList mem2) (NE.isList mem1) rfl ?_ (by show xs.length + 1 ≤ sizeLine; rw [sizeLine_eq]; omega)
        intro dn hn FN NN ldn
        clear NE FE
        k_steps
        rename News _ _ _ _ => NE
        have hDl : ∀ q ∈ (y2, p2) :: (y1, o8) :: it :: nxw, q.1 < _ := fun q hq => ldn q (.tail _ (.tail _ hq))
        have hDy := news_ne NE mem1 (mem4 : (y2, p2) ∈ _) (by rw [hdat2]; intro e; cases e)
        have NE2 := news_bring NE (x := y2) (o := p2) mem4
        refine kda_set (knd := PySem.strKind _ _) (by k_asm) NE2 (UpdF.head filt_ne) hd2 (strKind_is _ _ _ _) (by rw [sizeLine_eq]; omega) ?_
        intro h12 o12 F12 N12 hd12
        rw [stored_eq] at hd12
        generalize hLS : (_ :: _ :: _ :: (y2, p2) :: _ : List (Addr × Obj)) = LS at N12
        have hb : ∀ q ∈ (y2, p2) :: (y1, o8) :: it :: nxw, q.1 ≠ y2 → q ∈ (y2, o12) :: LS.filter (fun p => decide (p.1 ≠ y2)) := fun q hq h => .tail _ (mem_filt (hLS ▸ .tail _ (.tail _ (.tail _ hq))) h)
        have hDm := congrArg List.head? hLS.symm
        rw [List.head?_cons] at hDm
        replace hDm := List.mem_of_mem_head? hDm
        clear NE NE2
        k_steps
        obtain ⟨kvF, S9, hkF⟩ : ∃ kvF, DS w y1 y2 kv9 kvF (foldT (sh.take (i + 1)) size T₀) (foldM (!early) (sh.take (i + 1)) M₀) ((y2, o12) :: LS.filter (fun p => decide (p.1 ≠ y2))) ∧ (∀ r, Value.ref r ∈ kvF.map (·.2) → Value.ref r ∈ kv2.map (·.2) ∨ ∀ q ∈ tl ++ news, q.1 < r) := by
          refine ⟨_, ⟨⟨_, hb _ mem2 S'.ne, hd9⟩, ⟨_, mem1, hd12⟩, S'.lo1, S'.lo2, S'.ne, hv9, ?_⟩, fun r hr => (aput_vals hr).elim (e6 r) fun e => .inr (by injection e with e; rw [e]; exact hlt _ (hDl _ (.head _)) (hDl (y1, o8) mem2) fun q hq => hDl q (memN2 hq))⟩
          unfold foldM; rw [hMi]
          show KV _ _ (addM (!early) (foldM (!early) (sh.take i) M₀) key entry)
          unfold addM
          rw [a2]
          have V0 : KV (LV ((y2, o12) :: LS.filter (fun p => decide (p.1 ≠ y2)))) kv2' (foldM (!early) (sh.take i) M₀) :=
            S'.v2.mono fun _ _ ⟨r, xs, c, e, hm, hx⟩ => ⟨r, xs, c, e, hb _ (hin _ hm (hls1 _ hm ⟨_, _, rfl⟩)) (hls2 _ hm ⟨_, _, rfl⟩), hx⟩
          exact V0.put ⟨_, _, _, rfl, .tail _ (mem_filt hDm hDy), StrsAre.append' hxs'.2 (.cons _ _ .nil)⟩
        refine ⟨rfl, h12, _, _, _, rfl, by k_asm, N12, hb _ mem3 hit2, hb _ (hin _ hl₁ (hT _ hl).1) (hT _ hl).2, kv9, kvF, S9, rfl, rfl, ⟨_, rfl⟩, rfl, fun q hq c1 c2 => hb _ (hin _ (e5 q hq c1 c2) c1) c2, hkF⟩)
  · rintro m₁ nx h3 tk3 ⟨kv1', kv2', S', e1, e2, e3, e4, e5, e6⟩ F3 N3
    have hlen := hall.length
    rw [List.length_map] at hlen
    rw [hlen, List.take_length] at S'
    k_steps
    exact hret _ _ _ _ _ S' (fun q hq q1 q2 => e5 q (List.mem_append_right _ hq) q1 q2) (fun r hr => (e6 r hr).imp id fun h q hq => h q (List.mem_append_right _ hq)) (by k_asm) (by k_asm)
end Mine
end
section
open PySem PySem.W PyProof.Rows PySem.Calls PySem.Spec Builtin
set_option Elab.async false
set_option maxRecDepth 100000
namespace Mine
section
variable {w : World} {fz : Bool} {x dx : Addr} {fac : Value} {kvs : List (Str × Value)} {news news' : List (Addr × Obj)} {h₀ h : Heap} {L : Addr}
theorem FS.parts (S : FS w fz x dx fac kvs news) : ∃ es n dxo, (x, fdd fac dx es n) ∈ news ∧ (dx, dxo) ∈ news ∧ DX w dxo ∧ 72 < x ∧ DOf w es kvs := by
  obtain ⟨hb, es, n, hx, D, hd⟩ := S
  cases fz with
  | false => simp only [Bool.false_eq_true, if_false] at hd; exact ⟨es, n, _, hx, hd, .inl rfl, hb, D⟩
  | true => simp only [if_true] at hd; obtain ⟨tk, f, nf, h1, _⟩ := hd; exact ⟨es, n, _, hx, h1, .inr ⟨tk, f, nf, rfl⟩, hb, D⟩
theorem dx_dict {o : Obj} (h : DX w o) : o.cls = .type "dict" ∧ ∃ es n, o.data = .dict es n := by
  rcases h with rfl | ⟨tk, f, n, rfl⟩
  · exact ⟨rfl, _, _, rfl⟩
  · exact ⟨rfl, _, _, rfl⟩
theorem tab_at (hT : TabS news) : ∃ xs, (64, tabObj xs) ∈ news := by
  rcases hT with h | ⟨_, _, _, _, h, _⟩
  · exact ⟨_, h⟩
  · exact ⟨_, h⟩
/-- another such dict's own dict and the table of codes are set anew -/
theorem FS.keepF {dy : Addr} {oy : Obj} (N : News h₀ L h news) (S : FS w fz x dx fac kvs news) (hT : TabS news) (hy : (dy, oy) ∈ news) (hyd : DX w oy) (hne : dx ≠ dy) (hk : ∀ q ∈ news, q.1 ≠ dy → q.1 ≠ 64 → q ∈ news') : FS w fz x dx fac kvs news' := by
  obtain ⟨xs, h64⟩ := tab_at hT
  obtain ⟨hyc, ye, yn, hyd⟩ := dx_dict hyd
  obtain ⟨hb, es, n, hx, D, hd⟩ := S
  have x64 : x ≠ 64 := Nat.ne_of_gt (Nat.lt_trans (by decide) hb)
  have xdy : x ≠ dy := Ne.symm (news_ne' N hy hx (fdd_ne_dict _ _ _ _ _ hyc))
  refine ⟨hb, es, n, hk _ hx xdy x64, D, ?_⟩
  cases fz with
  | false =>
    simp only [Bool.false_eq_true, if_false] at hd ⊢
    exact hk _ hd hne (news_ne N hd h64 (fun e => nomatch e))
  | true =>
    simp only [if_true] at hd ⊢
    obtain ⟨tk, f, nf, h1, need, fo, fd, g1, g2, g3, g4⟩ := hd
    refine ⟨tk, f, nf, hk _ h1 hne (news_ne N h1 h64 (fun e => nomatch e)), need, fo, fd, fun q hq => ?_, g2, g3, g4⟩
    obtain ⟨q1, q2, q3⟩ := g1 q hq
    exact ⟨hk _ q1 (news_ne N (a := q.1) (o := q.2) q1 hy (by rw [hyd]; exact q3.1 _ _)) q2, q2, q3⟩
end
section
variable {w : World}
theorem dx_shadow {o : Obj} {name : Str} (hn : (name == ("_frozen" : Str)) = false) (h : DX w o) : shadowIn (some o) name = some false := by
  rcases h with rfl | ⟨tk, f, n, rfl⟩
  · rfl
  · have hn2 : (Str.ofString "_frozen" == name) = false := by
      rw [beq_eq_false_iff_ne] at hn ⊢; exact Ne.symm hn
    simp [shadowIn, lookIn, Value.isStr, hn2]
    rfl
set_option maxHeartbeats 4000000 in
theorem fr_find : findIn (Mine.hd.heap_1 w.params) (.ref 72) "freeze" = some (some (.ref 69)) := by k_is
set_option maxHeartbeats 4000000 in
theorem fr_type {M : Model} {h : Heap} (X : (Mine.hd.heap_1 w.params).In h) : Looks M h (typeOf (.ref 69)) (.type "function") := looks_typeIn X (beq_iff_eq.mp (show isFn (Mine.hd.heap_1 w.params) (.ref 69) = true by k_is))

set_option maxHeartbeats 4000000 in
theorem keep69 : keepIn (Mine.hd.heap_1 w.params) (.ref 69) = true := by k_is
theorem kv_keepF {news news' : List (Addr × Obj)} {h₀ h : Heap} {L : Addr} {kvs : List (Str × Value)} {M : List (Str × List Str)} {dy : Addr} {oy : Obj} (N : News h₀ L h news) (V : KV (LV news) kvs M) (hT : TabS news) (hy : (dy, oy) ∈ news) (hyd : DX w oy)
    (hk : ∀ q ∈ news, q.1 ≠ dy → q.1 ≠ 64 → q ∈ news') : KV (LV news') kvs M := by
  obtain ⟨xs, h64⟩ := tab_at hT
  obtain ⟨_, ye, yn, hyd⟩ := dx_dict hyd
  exact V.mono fun _ _ ⟨r, vs, c, e, hm, hs⟩ => ⟨r, vs, c, e, hk _ hm (news_ne N hm hy (by rw [hyd]; exact fun e => nomatch e)) (news_ne N hm h64 (fun e => nomatch e)), hs⟩
theorem fs_freeze (fz : Bool) (x dx : Addr) (fac : Value) (kvs : List (Str × Value))
  (p : Program) (loose : List Str) (mean : ExcName → Option Value) (mg mb : Str → Option Value) (dp un : Nat) (gd : Option (List Code)) (cn : Str) (cs : Scope) (a : Addr) (ccd : Value) (cl : List (Str × Addr)) (outer : List Env) (A₀ : Around) (base h₀ : Heap) (L : Addr) (m : Str → Option Value) (news : List (Addr × Obj)) (s : Shared) (Q E : Value → Shared → Prop)
  (B : Below A₀ base outer h₀) (F : Fr h₀ L s.heap m) (X : (Mine.hd.heap_1 w.params).In h₀) (N : News h₀ L s.heap news) (T : Top p loose mean mg mb h₀) (hk : cs.kind = .function)
  (hdp : dp + 1 < recursionLimit) (hu : un + 8 * 1 < cLine) (S : FS w fz x dx fac kvs news) (hT : TabS news) (hfac : fac = .type "int" ∨ fac = .type "list")
  (hret : ∀ h' tk' news', FS w true x dx fac kvs news' → TabS news' → (∀ q ∈ news, q.1 ≠ dx → q.1 ≠ 64 → q ∈ news') → Fr h₀ L h' m → News h₀ L h' news' → Q .none { s with heap := h', toks := tk' }) :
      wpAny (model PySem.Challenge.rw_in0194_01.row.prog w) (ktrTop dp un gd cn cs L a ccd cl outer) (call (.ref 69) [.ref x]) Q E s := by
  obtain ⟨es, n, dxo, hx, hdx, hD, hb, D⟩ := S.parts
  have xdx : x ≠ dx := Ne.symm (news_ne' N hdx hx (fdd_ne_dict _ _ _ _ _ (dx_dict hD).1))
  refine freeze_core w x dx fac es n dxo p loose mean mg mb dp un gd cn cs a ccd cl outer A₀ base h₀ L m news s Q E B F X N hx hb hdx hD hT hfac T hk hdp hu ?_
  intro h' tk' news' tk f n' F' N' keep hfr hfz hT'
  refine hret h' tk' news' ⟨hb, es, n, keep _ hx xdx (Nat.ne_of_gt (Nat.lt_trans (by decide) hb)), D, ?_⟩ hT' keep F' N'
  simp only [if_true]
  exact ⟨tk, f, n', hfr, hfz⟩
theorem gm_freeze {fz : Bool} {x dx : Addr} {fac : Value} {kvs : List (Str × Value)} {news : List (Addr × Obj)} {h₀ : Heap} {L : Addr} {A : Around} {E : Value → Shared → Prop} {s : Shared} {pl : Sem Bool} {Q : Value × List Value → Shared → Prop}
    (X : (Mine.hd.heap_1 w.params).In s.heap) (N : News h₀ L s.heap news) (S : FS w fz x dx fac kvs news) (h : Q (.ref 69, [.ref x]) s) : wpAny (model PySem.Challenge.rw_in0194_01.row.prog w) A (getMethod (.ref x) "freeze" pl) Q E s := by
  obtain ⟨es, n, dxo, hx, hdx, hD, hb, D⟩ := S.parts
  exact gm72_fn X ⟨(N _ hx).1, rfl, rfl, (N _ hdx).1⟩ fr_find (fr_type X) (.inl rfl) (dx_shadow (by decide) hD) h
theorem gm_items {fz : Bool} {x dx : Addr} {fac : Value} {kvs : List (Str × Value)} {news : List (Addr × Obj)} {h₀ : Heap} {L : Addr} {A : Around} {E : Value → Shared → Prop} {s : Shared} {pl : Sem Bool} {Q : Value × List Value → Shared → Prop}
    (X : (Mine.hd.heap_1 w.params).In s.heap) (N : News h₀ L s.heap news) (S : FS w fz x dx fac kvs news) (h : Q (.builtin "dict.items", [.ref x]) s) : wpAny (model PySem.Challenge.rw_in0194_01.row.prog w) A (getMethod (.ref x) "items" pl) Q E s := by
  obtain ⟨es, n, dxo, hx, hdx, hD, hb, D⟩ := S.parts
  exact gm72_fn X ⟨(N _ hx).1, rfl, rfl, (N _ hdx).1⟩ im_find (Looks.of_pure im_type) (.inr rfl) (dx_shadow (by decide) hD) h
end
end Mine
end
section
open PySem PySem.W PyProof.Rows PySem.Calls PySem.Spec
set_option Elab.async false
namespace Mine
noncomputable abbrev shOf (ns : List Str) : List (Str × Str) := shFull ns (dueSt ns) (dueEn ns)
noncomputable def sz (c : Nat) : Int := (c : Int).fmod 19 - 9
noncomputable def waysAt (cs : List Nat) (i : Nat) : List Str := (cs.take i).foldl (fun ds c => nextW ds.dropLast c) []
noncomputable def Tof (cs : List Nat) (i : Nat) : List (Str × Int) := (List.range i).foldl (fun T k => foldT (shOf (waysAt cs (k + 1))) (sz (cs.getD k 0)) T) []
noncomputable def Mof (cs : List Nat) (stop i : Nat) : List (Str × List Str) := (List.range i).foldl (fun M k => foldM (decide (stop ≤ k)) (shOf (waysAt cs (k + 1))) M) []
theorem waysAt_succ {cs : List Nat} {i c : Nat} (h : cs[i]? = some c) : waysAt cs (i + 1) = nextW (waysAt cs i).dropLast c := by
  unfold waysAt; exact take_succ_fold cs i c _ _ h
theorem Tof_succ {cs : List Nat} {i c : Nat} (h : cs[i]? = some c) : Tof cs (i + 1) = foldT (shOf (waysAt cs (i + 1))) (sz c) (Tof cs i) := by
  unfold Tof
  rw [List.range_succ, List.foldl_append]
  simp [List.getD, h]
theorem Mof_succ (cs : List Nat) (stop i : Nat) : Mof cs stop (i + 1) = foldM (decide (stop ≤ i)) (shOf (waysAt cs (i + 1))) (Mof cs stop i) := by
  unfold Mof
  rw [List.range_succ, List.foldl_append]
  rfl
abbrev Low (cs : List Nat) : Prop := ∀ c ∈ cs, c < 46656
theorem waysAt_ok {cs : List Nat} (h : Low cs) : ∀ i, Nms (waysAt cs i) ∧ wt (waysAt cs i) ≤ 27 * i
  | 0 => ⟨(fun _ h => nomatch h), Nat.le_refl _⟩
  | i + 1 => by
    obtain ⟨h1, h2⟩ := waysAt_ok h i
    cases hc : cs[i]? with
    | none =>
      have e : waysAt cs (i + 1) = waysAt cs i := by
        unfold waysAt
        rw [List.take_add_one, hc]; simp
      rw [e]; exact ⟨h1, by omega⟩
    | some c =>
      have hlt := h c (List.mem_of_getElem? hc)
      rw [waysAt_succ hc]
      have hd : Nms (waysAt cs i).dropLast := fun n hn => h1 n ((List.dropLast_sublist _).subset hn)
      refine ⟨nextW_nms hd hlt, ?_⟩
      have h3 := nextW_wt (ds := (waysAt cs i).dropLast) hlt
      have h4 : wt (waysAt cs i).dropLast ≤ wt (waysAt cs i) := by rw [List.dropLast_eq_take]; exact wt_take _ _
      omega
theorem shOf_len (ns : List Str) : (shOf ns).length ≤ wt ns + 1 := by
  unfold shOf shFull
  split
  · simp
  · rw [List.length_append]
    unfold shI
    have := wt_len ns
    simp only [List.length_map, List.length_range, List.length_cons, List.length_nil]; omega
theorem Tof_len {cs : List Nat} (h : Low cs) (i : Nat) (hi : i ≤ 40) : (Tof cs i).length ≤ 1200 * i := by
  induction i with
  | zero => simp [Tof]
  | succ i ih =>
    have ih := ih (by omega)
    have h1 := shOf_len (waysAt cs (i + 1))
    have h2 := (waysAt_ok h (i + 1)).2
    unfold Tof at ih ⊢
    rw [List.range_succ, List.foldl_append]
    have h3 := foldT_len (shOf (waysAt cs (i + 1))) (sz (cs.getD i 0)) ((List.range i).foldl (fun T k => foldT (shOf (waysAt cs (k + 1))) (sz (cs.getD k 0)) T) [])
    simp only [List.foldl_cons, List.foldl_nil]
    omega
theorem Mof_len {cs : List Nat} (h : Low cs) (stop i : Nat) (hi : i ≤ 40) : (Mof cs stop i).length ≤ 1200 * i ∧ ∀ p ∈ Mof cs stop i, p.2.length ≤ 1200 * i := by
  induction i with
  | zero => exact ⟨by simp [Mof], (fun _ h => nomatch h)⟩
  | succ i ih =>
    obtain ⟨h4, h5⟩ := ih (by omega)
    have h1 := shOf_len (waysAt cs (i + 1))
    have h2 := (waysAt_ok h (i + 1)).2
    rw [Mof_succ]
    refine ⟨?_, fun p hp => ?_⟩
    · have := foldM_len (decide (stop ≤ i)) (shOf (waysAt cs (i + 1))) (Mof cs stop i); omega
    · have := foldM_lens (decide (stop ≤ i)) (shOf (waysAt cs (i + 1))) (Mof cs stop i) h5 p hp; omega
theorem pth_nil : pth [] = Str.ofString "/" := by rw [pth_eq, slash_eq]; rfl
/-- the script's counts -/
noncomputable def csI (scr : List Int) : List Int := (scr.take 8).map (fun k : Int => k.fmod 46656) ++ [192, 21, 4198, 411, 34]
noncomputable def csOf (scr : List Int) : List Nat := (csI scr).map Int.toNat
theorem csI_bounds (scr : List Int) : ∀ c ∈ csI scr, 0 ≤ c ∧ c < 46656 := by
  intro c hc
  unfold csI at hc
  rcases List.mem_append.mp hc with hc | hc
  · obtain ⟨k, _, rfl⟩ := List.mem_map.mp hc
    exact ⟨Int.fmod_nonneg_of_pos k (by decide), Int.fmod_lt_of_pos k (by decide)⟩
  · simp only [List.mem_cons, List.not_mem_nil, or_false] at hc
    omega
theorem csOf_cast (scr : List Int) : (csOf scr).map (fun c : Nat => (c : Int)) = csI scr := by
  unfold csOf
  rw [List.map_map]
  conv => rhs; rw [← List.map_id (csI scr)]
  refine List.map_congr_left fun c hc => ?_
  have := csI_bounds scr c hc
  show ((c.toNat : Nat) : Int) = c
  omega
theorem csOf_low (scr : List Int) : Low (csOf scr) := by
  intro c hc
  obtain ⟨k, hk, rfl⟩ := List.mem_map.mp hc
  have := csI_bounds scr k hk
  omega
theorem csOf_len (scr : List Int) : (csOf scr).length = (scr.take 8).length + 5 ∧ (csOf scr).length ≤ 13 := by
  have h : (csOf scr).length = (scr.take 8).length + 5 := by simp [csOf, csI]
  refine ⟨h, ?_⟩
  rw [h, List.length_take]; omega
theorem stop_nat (scr : List Int) (n : Nat) : ∃ k : Nat, 1 + (csI scr).sum.fmod ((n + (1 + 1 + 1 + 1 + 1) : Nat) : Int) = (k : Int) ∧ 1 ≤ k := by
  have := Int.fmod_nonneg_of_pos (csI scr).sum (b := ((n + (1 + 1 + 1 + 1 + 1) : Nat) : Int)) (by omega)
  exact ⟨(1 + (csI scr).sum.fmod ((n + (1 + 1 + 1 + 1 + 1) : Nat) : Int)).toNat, by omega, by omega⟩
end Mine
end
section
open PySem PySem.W PyProof.Rows PySem.Calls PySem.Spec
set_option Elab.async false
set_option maxRecDepth 100000
namespace Mine
section
variable {w : World} {fz : Bool} {x1 d1 x2 d2 y1 y2 : Addr} {kv1 kv2 kw1 kw2 : List (Str × Value)} {T T' : List (Str × Int)} {M M' : List (Str × List Str)} {news news' : List (Addr × Obj)} {h₀ h : Heap} {L : Addr}
theorem dict_cls {o : Obj} {kvs : List (Str × Value)} (h : o.IsDictOf (PySem.strKind PySem.Challenge.rw_in0194_01.row.prog w) kvs) : o.cls = .type "dict" := by
  obtain ⟨_, _, e, _⟩ := h; exact e.1
theorem frame6 {m : Str → Option Value} {a b c d e f : Str} {va vb vc vd ve vf : Value} (ha : m a = some va) (hb : m b = some vb) (hc : m c = some vc) (hd : m d = some vd) (he : m e = some ve) (hf : m f = some vf) :
    m = fun (y : Str) => if y = a then some va else if y = b then some vb else if y = c then some vc else if y = d then some vd else if y = e then some ve else if y = f then some vf else m y := by
  funext y
  by_cases c1 : y = a
  · rw [if_pos c1, c1, ha]
  · rw [if_neg c1]
    by_cases c2 : y = b
    · rw [if_pos c2, c2, hb]
    · rw [if_neg c2]
      by_cases c3 : y = c
      · rw [if_pos c3, c3, hc]
      · rw [if_neg c3]
        by_cases c4 : y = d
        · rw [if_pos c4, c4, hd]
        · rw [if_neg c4]
          by_cases c5 : y = e
          · rw [if_pos c5, c5, he]
          · rw [if_neg c5]
            by_cases c6 : y = f
            · rw [if_pos c6, c6, hf]
            · rw [if_neg c6]
/-- what _law_put leaves as it is -/
theorem ST.apartQ (N : News h₀ L h news) (S : ST w fz x1 d1 x2 d2 kv1 kv2 T M news) {q : Addr × Obj} (hq : q ∈ news) (hc : (∀ es n, q.2.data ≠ .dict es n) ∨ q.2.cls = .type "dict") (hl : (∀ xs n, q.2.data ≠ .seq xs n) ∨ Value.ref q.1 ∉ kv2.map (·.2)) :
    q.1 ≠ x1 ∧ q.1 ≠ x2 ∧ Value.ref q.1 ∉ kv2.map (·.2) := by
  obtain ⟨es1, n1, hx1, _⟩ := S.f1.at_
  obtain ⟨es2, n2, hx2, _⟩ := S.f2.at_
  refine ⟨?_, ?_, ?_⟩
  · rcases hc with h | h
    · exact news_ne N (a := q.1) (o := q.2) hq hx1 (h _ _)
    · exact news_ne' N (a := q.1) (o := q.2) hq hx1 (fdd_ne_dict _ _ _ _ _ h)
  · rcases hc with h | h
    · exact news_ne N (a := q.1) (o := q.2) hq hx2 (h _ _)
    · exact news_ne' N (a := q.1) (o := q.2) hq hx2 (fdd_ne_dict _ _ _ _ _ h)
  · rcases hl with h | h
    · intro hr
      obtain ⟨vs, c, hm⟩ := refs_in S.v2 hr
      exact news_ne N (a := q.1) (o := q.2) hq hm (h _ _) rfl
    · exact h
theorem DS.afterPut (N : News h₀ L h news) (S : ST w fz x1 d1 x2 d2 kv1 kv2 T M news) (D : DS w y1 y2 kw1 kw2 T' M' news) (sep : ∀ r, Value.ref r ∈ kv2.map (·.2) → Value.ref r ∉ kw2.map (·.2))
    (hk : ∀ q ∈ news, q.1 ≠ x1 → q.1 ≠ x2 → Value.ref q.1 ∉ kv2.map (·.2) → q ∈ news') : DS w y1 y2 kw1 kw2 T' M' news' := by
  have keep : ∀ q ∈ news, ((∀ es n, q.2.data ≠ .dict es n) ∨ q.2.cls = .type "dict") → ((∀ xs n, q.2.data ≠ .seq xs n) ∨ Value.ref q.1 ∉ kv2.map (·.2)) → q ∈ news' := fun q hq h1 h2 => by
    obtain ⟨a, b, c⟩ := S.apartQ N hq h1 h2
    exact hk q hq a b c
  obtain ⟨⟨o1, h1, k1⟩, ⟨o2, h2, k2⟩, l1, l2, ne, v1, v2⟩ := D
  refine ⟨⟨o1, keep _ h1 (.inr (dict_cls k1)) (.inl ?_), k1⟩, ⟨o2, keep _ h2 (.inr (dict_cls k2)) (.inl ?_), k2⟩, l1, l2, ne, v1, ?_⟩
  · obtain ⟨es, n, e⟩ := dict_data k1; intro _ _ e2; rw [e] at e2; cases e2
  · obtain ⟨es, n, e⟩ := dict_data k2; intro _ _ e2; rw [e] at e2; cases e2
  · have all : ∀ {kvs M}, KV (LV news) kvs M → (∀ p ∈ kvs, Value.ref = Value.ref → ∀ r, p.2 = .ref r → Value.ref r ∉ kv2.map (·.2)) → KV (LV news') kvs M := by
      intro kvs M V hne
      induction V with
      | nil => exact .nil
      | cons g1 g2 ih =>
        refine .cons ?_ (ih fun p hp => hne p (.tail _ hp))
        obtain ⟨r, vs, c, e, hm, hs⟩ := g1
        exact ⟨r, vs, c, e, keep _ hm (.inl fun _ _ e => nomatch e) (.inr (hne _ (.head _) rfl r e)), hs⟩
    exact all v2 fun p hp _ r e hr => sep r hr (List.mem_map.mpr ⟨p, hp, e⟩)
theorem ST.afterDue (N : News h₀ L h news) (S : ST w fz x1 d1 x2 d2 kv1 kv2 T M news) (D : DS w y1 y2 kw1 kw2 T' M' news) (n1 : d1 ≠ y1) (n2 : d1 ≠ y2) (n3 : d2 ≠ y1) (n4 : d2 ≠ y2)
    (hk : ∀ q ∈ news, q.1 ≠ y1 → q.1 ≠ y2 → q ∈ news') : ST w fz x1 d1 x2 d2 kv1 kv2 T M news' := by
  obtain ⟨⟨o1, h1, k1⟩, ⟨o2, h2, k2⟩, l1, l2, ne, v1, v2⟩ := D
  have c1 := dict_cls k1
  have c2 := dict_cls k2
  obtain ⟨es1, m1, e1⟩ := dict_data k1
  obtain ⟨es2, m2, e2⟩ := dict_data k2
  have key : ∀ {x dx : Addr} {fac : Value}, dx ≠ y1 → dx ≠ y2 → ∀ q ∈ news, (q.1 = x ∧ ∃ es n, q.2 = fdd fac dx es n) ∨ (q.1 = dx ∧ ∃ es n, q.2.data = .dict es n) ∨ Stable q.2 → q ∈ news' := fun g1 g2 q hq hc => by
    rcases hc with ⟨_, es, n, e⟩ | ⟨e, _⟩ | hs
    · refine hk q hq (Ne.symm (news_ne' N (b := q.1) (o' := q.2) h1 hq (by rw [e]; exact fdd_ne_dict _ _ _ _ _ c1))) (Ne.symm (news_ne' N (b := q.1) (o' := q.2) h2 hq (by rw [e]; exact fdd_ne_dict _ _ _ _ _ c2)))
    · exact hk q hq (e ▸ g1) (e ▸ g2)
    · exact hk q hq (news_ne N (a := q.1) (o := q.2) hq h1 (by rw [e1]; exact hs.1 _ _)) (news_ne N (a := q.1) (o := q.2) hq h2 (by rw [e2]; exact hs.1 _ _))
  exact ⟨S.f1.keep (key n1 n2), S.v1, S.f2.keep (key n3 n4), S.v2.mono fun v b ⟨r, vs, c, e, hm, hx⟩ => ⟨r, vs, c, e, hk _ hm (news_ne N hm h1 (by rw [e1]; exact fun e => nomatch e)) (news_ne N hm h2 (by rw [e2]; exact fun e => nomatch e)), hx⟩, S.nd⟩
theorem TabS.keep (hT : TabS news) (hk : ∀ q ∈ news, (∃ vs, q.2.data = .fields vs) → q ∈ news') : TabS news' := by
  rcases hT with h | ⟨c', oc, vs, t, h1, h2, h3, h4⟩
  · exact .inl (hk _ h ⟨_, rfl⟩)
  · exact .inr ⟨c', oc, vs, t, hk _ h1 ⟨_, rfl⟩, hk _ h2 ⟨_, h3⟩, h3, h4⟩
theorem TabS.sub {I : List (Addr × Obj)} (hT : TabS news) {o64 : Obj} (h64 : (64, o64) ∈ I) (hk : ∀ q ∈ news, NotIt q.2 ∨ (∃ p ∈ I, p.1 = q.1) → q ∈ news') : TabS news' := by
  rcases hT with h | ⟨c', oc, vs, t, h1, h2, h3, h4⟩
  · exact .inl (hk _ h (.inr ⟨_, h64, rfl⟩))
  · refine .inr ⟨c', oc, vs, t, hk _ h1 (.inr ⟨_, h64, rfl⟩), hk _ h2 (.inl fun us k tk e e2 => ?_), h3, h4⟩
    dsimp only at e
    rw [h3] at e
    cases e
    rw [h4] at e2; cases e2
/-- between the turns of the law's loop -/
structure LJ (w : World) (cs : List Nat) (stop : Nat) (ws : List Value) (x1 d1 x2 d2 y1 y2 lc c1 c2 : Addr) (oM oD : Obj) (i : Nat) (m : Str → Option Value) (nx : List (Addr × Obj)) : Prop where
  ex : ∃ kv1 kv2 kw1 kw2 wr, ST w (decide (stop < i)) x1 d1 x2 d2 kv1 kv2 (Tof cs i) (Mof cs stop i) nx ∧ DS w y1 y2 kw1 kw2 (Tof cs i) (Mof cs stop i) nx ∧ LV nx (.ref wr) (waysAt cs i) ∧ m "way" = some (.ref wr) ∧
    (∀ r, Value.ref r ∈ kv2.map (·.2) → r ≠ wr ∧ r ≠ lc ∧ Value.ref r ∉ kw2.map (·.2))
  lcm : (lc, listOf ws.toArray 0) ∈ nx
  c1m : (c1, oM) ∈ nx
  c2m : (c2, oD) ∈ nx
  tab : TabS nx
  m1 : m "counts" = some (.ref lc)
  m2 : ∃ t, m "stop" = some (.int stop t)
  m3 : m "totals" = some (.ref x1)
  m4 : m "due_totals" = some (.ref y1)
  m5 : ∃ t, m "spot" = some (.str (pth (waysAt cs i)) t)
theorem cell_notIt {o : Obj} {v : Option Value} (h : o.data = .cell v) : NotIt o := fun _ _ _ e => by rw [h] at e; cases e
theorem LJ.sub {I nx nx' : List (Addr × Obj)} {cs : List Nat} {stop : Nat} {ws : List Value} {lc c1 c2 : Addr} {oM oD : Obj} {vM vD : Option Value} {i : Nat} {m : Str → Option Value} (hM : oM.data = .cell vM) (hD : oD.data = .cell vD) (J : LJ w cs stop ws x1 d1 x2 d2 y1 y2 lc c1 c2 oM oD i m nx) {o64 : Obj} (h64 : (64, o64) ∈ I)
    (hk : ∀ q ∈ nx, NotIt q.2 ∨ (∃ p ∈ I, p.1 = q.1) → q ∈ nx') : LJ w cs stop ws x1 d1 x2 d2 y1 y2 lc c1 c2 oM oD i m nx' := by
  obtain ⟨⟨kv1, kv2, kw1, kw2, wr, S, D, ⟨r, vs, c, e, hm, hs⟩, g1, g2⟩, l1, l2, l3, l4, m1, m2, m3, m4, m5⟩ := J
  exact ⟨⟨kv1, kv2, kw1, kw2, wr, S.sub fun p hp hn => hk p hp (.inl hn), D.sub fun p hp hn => hk p hp (.inl hn), ⟨r, vs, c, e, hk _ hm (.inl fun _ _ _ e => nomatch e), hs⟩, g1, g2⟩, hk _ l1 (.inl fun _ _ _ e => nomatch e), hk _ l2 (.inl (cell_notIt hM)), hk _ l3 (.inl (cell_notIt hD)), l4.sub h64 hk, m1, m2, m3, m4, m5⟩
/-- within a turn: the books may be frozen by now -/
structure LK (w : World) (cs : List Nat) (stop : Nat) (ws : List Value) (x1 d1 x2 d2 y1 y2 lc c1 c2 : Addr) (oM oD : Obj) (i : Nat) (wr : Addr) (wvs : List Value) (wc : Nat) (it : Addr × Obj) (nx : List (Addr × Obj)) : Prop where
  ex : ∃ kv1 kv2 kw1 kw2, ST w (decide (stop ≤ i)) x1 d1 x2 d2 kv1 kv2 (Tof cs i) (Mof cs stop i) nx ∧ DS w y1 y2 kw1 kw2 (Tof cs i) (Mof cs stop i) nx ∧ (∀ r, Value.ref r ∈ kv2.map (·.2) → r ≠ wr ∧ r ≠ lc ∧ Value.ref r ∉ kw2.map (·.2))
  way : (wr, listOf wvs.toArray wc) ∈ nx
  lcm : (lc, listOf ws.toArray 0) ∈ nx
  c1m : (c1, oM) ∈ nx
  c2m : (c2, oD) ∈ nx
  itm : it ∈ nx
  tab : TabS nx
def IfEnd (h₀ : Heap) (L : Addr) (s₁ : Shared) (m : Str → Option Value) (K : List (Addr × Obj) → Prop) (fl : Flow) (s' : Shared) : Prop :=
  fl = Flow.next ∧ ∃ h' tk nx1, s' = { s₁ with heap := h', toks := tk } ∧ Fr h₀ L h' m ∧ News h₀ L h' nx1 ∧ K nx1
theorem memN4 {α : Type} {a b c d f : α} {r : List α} (h : f ∈ r) : f ∈ a :: b :: c :: d :: r := .tail _ (.tail _ (.tail _ (.tail _ h)))
/-- one of the two books is frozen -/
theorem DS.keepF {dy : Addr} {oy : Obj} (N : News h₀ L h news) (D : DS w y1 y2 kw1 kw2 T' M' news) (hT : TabS news) (hy : (dy, oy) ∈ news) (hyd : DX w oy) (n1 : y1 ≠ dy) (n2 : y2 ≠ dy)
    (hk : ∀ q ∈ news, q.1 ≠ dy → q.1 ≠ 64 → q ∈ news') : DS w y1 y2 kw1 kw2 T' M' news' := by
  obtain ⟨xs, h64⟩ := tab_at hT
  obtain ⟨⟨o1, h1, k1⟩, ⟨o2, h2, k2⟩, l1, l2, ne, v1, v2⟩ := D
  obtain ⟨es1, m1, e1⟩ := dict_data k1
  obtain ⟨es2, m2, e2⟩ := dict_data k2
  exact ⟨⟨o1, hk _ h1 n1 (news_ne N h1 h64 (by rw [e1]; exact fun e => nomatch e)), k1⟩, ⟨o2, hk _ h2 n2 (news_ne N h2 h64 (by rw [e2]; exact fun e => nomatch e)), k2⟩, l1, l2, ne, v1, kv_keepF N v2 hT hy hyd hk⟩
end
end Mine
end
section
open PySem PySem.W PyProof.Rows PySem.Calls PySem.Spec
set_option Elab.async false
namespace Mine

set_option maxRecDepth 100000
theorem splitF_a {x : Str} (h1 : ((Txt.slice x none (some (Txt.rfind x (Str.ofString "/") + 1))).length : Int) ≠ 0) (h2 : (Txt.slice x none (some (Txt.rfind x (Str.ofString "/") + 1)) != Txt.mul (Str.ofString "/") ↑(Txt.slice x none (some (Txt.rfind x (Str.ofString "/") + 1))).length) = true) :
    splitF x = (Txt.rstripChars (Txt.slice x none (some (Txt.rfind x (Str.ofString "/") + 1))) (Str.ofString "/"), Txt.slice x (some (Txt.rfind x (Str.ofString "/") + 1)) none) := by
  unfold splitF; rw [if_pos ⟨by omega, h2⟩]
theorem splitF_b {x : Str} (h2 : (Txt.slice x none (some (Txt.rfind x (Str.ofString "/") + 1)) != Txt.mul (Str.ofString "/") ↑(Txt.slice x none (some (Txt.rfind x (Str.ofString "/") + 1))).length) = false) :
    splitF x = (Txt.slice x none (some (Txt.rfind x (Str.ofString "/") + 1)), Txt.slice x (some (Txt.rfind x (Str.ofString "/") + 1)) none) := by
  unfold splitF; rw [if_neg (by rw [h2]; simp)]
theorem splitF_c {x : Str} (h1 : ((Txt.slice x none (some (Txt.rfind x (Str.ofString "/") + 1))).length : Int) = 0) :
    splitF x = (Txt.slice x none (some (Txt.rfind x (Str.ofString "/") + 1)), Txt.slice x (some (Txt.rfind x (Str.ofString "/") + 1)) none) := by
  unfold splitF; rw [if_neg (fun h => h.1 (by omega))]
theorem allLt_lt {d : Addr} {l : List (Addr × Obj)} (h : AllLt d l) : ∀ p ∈ l, p.1 < d := by
  induction l with
  | nil => intro p hp; cases hp
  | cons q r ih =>
    intro p hp
    obtain ⟨h1, h2⟩ := h
    rcases List.mem_cons.mp hp with rfl | hp
    · exact h1
    · exact ih h2 p hp
theorem lt_two {news : List (Addr × Obj)} {q1 q2 : Addr × Obj} (h1 : q2.1 < q1.1 ∧ AllLt q1.1 news) (h2 : ∀ p ∈ news, p.1 < q2.1) : ∀ q ∈ news, ∀ p ∈ [q1, q2], q.1 < p.1 := by
  intro q hq p hp
  rcases List.mem_cons.mp hp with rfl | hp
  · exact allLt_lt h1.2 q hq
  · rw [List.mem_singleton.mp hp]; exact h2 q hq
theorem tup2 {news : List (Addr × Obj)} {a : Addr} {x y : Str} {t1 t2 : Tok} (h : (a, ({ cls := .type "tuple", data := .seq #[.str x t1, .str y t2] } : Obj)) ∈ news) : DatIn news (.ref a) (.tuple [.str x, .str y]) :=
  DatIn.tuple (vs := [.str x t1, .str y t2]) h (.cons (.str _ _) (.cons (.str _ _) .nil))
set_option maxHeartbeats 8000000 in
theorem split_c (w : World) (x : Str) (t : Tok) (hx : x.length ≤ 1048576) : Make1 w 2 184 [.str x t] noPre (fun tl v => DatIn tl v (.tuple [.str (splitF x).1, .str (splitF x).2])) := by
  unfold Make1
  intro p loose mean mg mb dp un gd cn cs a ccd cl outer A₀ base h₀ L m news s Q E B F X N T hk hdp hun _ hret
  have hret2 : ∀ q1 q2 h' tk', DatIn [q1, q2] (.ref q1.1) (.tuple [.str (splitF x).1, .str (splitF x).2]) → Fr h₀ L h' m → News h₀ L h' (q1 :: q2 :: news) → (∀ q ∈ news, ∀ p ∈ [q1, q2], q.1 < p.1) → Q (.ref q1.1) { s with heap := h', toks := tk' } := fun q1 q2 h' tk' => hret _ [q1, q2] h' tk'
  clear hret
  (refine wpAny_call ?_; k_dflt (refine' code_def ?k1 ?k2 ?k3 ?k4 ?k5 ?kA ?kF ?kK ?k6 ?k7 ?k8 ?k9 ?kB ?_ ?c2 ?c3 ?c4 ?c5; (case kA => exact rfl); (case kF => exact rfl); (case kK => assumption); (case k1 => k_asm); (case k2 => k_asm); (case k3 => k_asm); (case k4 => k_asm); (case k5 => k_asm); (case k6 => k_is); (case k7 => k_is); (case k8 => ktr_room); (case k9 => exact BindsTo.of_eq rfl); (case c5 => decide); (case kB => exact locs rfl); (case c2 => exact rfl); (case c3 => exact rfl); (case c4 => exact rfl); k_whole))
  intro g' L' h' FG' F' N' B' X' T'
  k_steps
  · refine hret2 (_, _) (_, _) _ _ ?_ (by k_asm) (by k_asm) (lt_two (by assumption) (by assumption))
    rw [splitF_a (by assumption) (by assumption)]
    exact tup2 (.head _)
  · refine hret2 (_, _) (_, _) _ _ ?_ (by k_asm) (by k_asm) (lt_two (by assumption) (by assumption))
    rw [splitF_b (by assumption)]
    exact tup2 (.head _)
  · refine hret2 (_, _) (_, _) _ _ ?_ (by k_asm) (by k_asm) (lt_two (by assumption) (by assumption))
    rw [splitF_c (by assumption)]
    exact tup2 (.head _)
set_option maxHeartbeats 8000000 in
theorem dirname_c (w : World) (x : Str) (t : Tok) (hx : x.length ≤ 1048576) : Pure1 w 2 208 [.str x t] noPre (fun t => .str (splitF x).1 t) := by
  unfold Pure1
  intro p loose mean mg mb dp un gd cn cs a ccd cl outer A₀ base h₀ L m news s Q E B F X N T hk hdp hun _ hret
  (refine wpAny_call ?_; k_dflt (refine' code_def ?k1 ?k2 ?k3 ?k4 ?k5 ?kA ?kF ?kK ?k6 ?k7 ?k8 ?k9 ?kB ?_ ?c2 ?c3 ?c4 ?c5; (case kA => exact rfl); (case kF => exact rfl); (case kK => assumption); (case k1 => k_asm); (case k2 => k_asm); (case k3 => k_asm); (case k4 => k_asm); (case k5 => k_asm); (case k6 => k_is); (case k7 => k_is); (case k8 => ktr_room); (case k9 => exact BindsTo.of_eq rfl); (case c5 => decide); (case kB => exact locs rfl); (case c2 => exact rfl); (case c3 => exact rfl); (case c4 => exact rfl); k_whole))
  intro g' L' h' FG' F' N' B' X' T'
  k_steps
  · rw [splitF_a (by assumption) (by assumption)] at hret
    exact hret _ _ _ (by k_asm) (by k_asm)
  · rw [splitF_b (by assumption)] at hret
    exact hret _ _ _ (by k_asm) (by k_asm)
  · rw [splitF_c (by assumption)] at hret
    exact hret _ _ _ (by k_asm) (by k_asm)
end Mine
end
section
open PySem PySem.W PyProof.Rows PySem.Calls PySem.Spec
set_option Elab.async false
namespace Mine

set_option maxRecDepth 100000
theorem frame2 {m : Str → Option Value} {a b : Str} {va vb : Value} (ha : m a = some va) (hb : m b = some vb) : m = fun (y : Str) => if y = a then some va else if y = b then some vb else m y := by
  funext y
  by_cases c1 : y = a
  · rw [if_pos c1, c1, ha]
  · rw [if_neg c1]
    by_cases c2 : y = b
    · rw [if_pos c2, c2, hb]
    · rw [if_neg c2]
set_option maxHeartbeats 2000000 in
theorem join_c (w : World) (x y : Str) (t t1 : Tok) (hx : x.length ≤ 100000) (hy : y.length ≤ 100000) : Pure1 w 2 177 [.str x t, .str y t1] noPre (fun t => .str (joinF x y) t) := by
  unfold Pure1
  intro p loose mean mg mb dp un gd cn cs a ccd cl outer A₀ base h₀ L m news s Q E B F X N T hk hdp hun hpre hret
  refine wpAny_call ?_
  k_dflt (refine' kp_rest ?k1 ?k2 ?k3 ?k4 ?k5 ?kA ?kF ?kK ?k6 ?k7 ?k8 ?kV ?kP ?kG ?kB ?_ ?c2 ?c3 ?c4 ?c5; (case kA => exact rfl); (case kF => exact rfl); (case kK => assumption); (case k1 => k_asm); (case k2 => k_asm); (case k3 => k_asm); (case k4 => k_asm); (case k5 => k_asm); (case k6 => k_is); (case k7 => k_is); (case k8 => ktr_room); (case kV => kl_lit); (case kP => exact rfl); (case kG => exact fun _ => rfl); (case kB => exact fun _ => locs rfl); (case c5 => decide); (case c2 => exact rfl); (case c3 => exact rfl); (case c4 => exact rfl); k_whole)
  intro D' g' L' h' l1 FG' F' N' B' X' T'
  k_steps
  refine wpAny_mono (E := fun _ _ => False) ?_ (fun _ _ h => h) (fun _ _ h => h.elim)
  rename Fr _ _ _ _ => F2
  rename News _ _ _ _ => N2
  refine For_invVF F2 (by rfl) (by rfl) ?_ (by intro _; rfl) (by passes_own)
  repeat ((fail_if_success (with_reducible show wpAny _ _ (pyIter _) _ _ _)); walk1)
  refine mtup_iterV (vs := [.str y t1]) (nn := 0) (fun i m nx => (∀ q ∈ news, q ∈ nx) ∧ (∃ t9, m "sep" = some (.str (Str.ofString "/") t9)) ∧ if i = 0 then ∃ tp, m "path" = some (.str x tp) else ∃ tp, m "path" = some (.str (joinF x y) tp)) rfl mem1 (by k_asm) (by k_asm) ?_ ?_ ?_ ?_
  · rintro i m nx nx' ⟨e1, e2, e3⟩ hs
    exact ⟨fun q hq => hs q (e1 q hq) (.inr (.tail _ hq)), e2, e3⟩
  · exact ⟨fun q hq => .tail _ hq, ⟨_, rfl⟩, ⟨_, rfl⟩⟩
  · intro i v m₁ nx s₁ it hv hIt hl₁ hJ F₁ N₁
    have hi0 : i = 0 := by
      have := (List.getElem?_eq_some_iff.mp hv).1
      simp at this; exact this
    subst hi0
    cases hv
    obtain ⟨e1, ⟨t9, e2⟩, e3⟩ := hJ
    simp only [if_true] at e3
    obtain ⟨tp, e3⟩ := e3
    rw [frame2 e2 e3] at F₁
    dsimp only at F₁
    k_steps
    · have ej : joinF x y = y := by unfold joinF; rw [if_pos (by assumption)]
      rename News _ _ _ _ => NZ
      refine ⟨.inl rfl, _, _, _, _, rfl, by k_asm, NZ, .head _, .tail _ hl₁, fun q hq => .tail _ (e1 q hq), ⟨_, rfl⟩, ?_⟩
      simp only [Nat.zero_add, Nat.one_ne_zero, if_false]
      rw [ej]
      exact ⟨_, rfl⟩
    · have ej : joinF x y = x ++ y := by unfold joinF; rw [if_neg (by rename (Txt.startswith _ _ = false) => h9; rw [h9]; decide), if_neg (by assumption), if_pos (by assumption)]
      rename News _ _ _ _ => NZ
      refine ⟨.inl rfl, _, _, _, _, rfl, by k_asm, NZ, .head _, .tail _ hl₁, fun q hq => .tail _ (e1 q hq), ⟨_, rfl⟩, ?_⟩
      simp only [Nat.zero_add, Nat.one_ne_zero, if_false]
      rw [ej]
      exact ⟨_, rfl⟩
    · have ej : joinF x y = x ++ (Str.ofString "/" ++ y) := by unfold joinF; rw [if_neg (by rename (Txt.startswith _ _ = false) => h9; rw [h9]; decide), if_neg (by assumption), if_neg (by rename (Txt.endswith _ _ = false) => h9; rw [h9]; decide)]
      rename News _ _ _ _ => NZ
      refine ⟨.inl rfl, _, _, _, _, rfl, by k_asm, NZ, .head _, .tail _ hl₁, fun q hq => .tail _ (e1 q hq), ⟨_, rfl⟩, ?_⟩
      simp only [Nat.zero_add, Nat.one_ne_zero, if_false]
      rw [ej]
      exact ⟨_, rfl⟩
    · have ej : joinF x y = y := by unfold joinF; rw [if_neg (by rename (Txt.startswith _ _ = false) => h9; rw [h9]; decide), if_pos (by assumption)]
      rename News _ _ _ _ => NZ
      refine ⟨.inl rfl, _, _, _, _, rfl, by k_asm, NZ, .head _, .tail _ hl₁, fun q hq => .tail _ (e1 q hq), ⟨_, rfl⟩, ?_⟩
      simp only [Nat.zero_add, Nat.one_ne_zero, if_false]
      rw [ej]
      exact ⟨_, rfl⟩
  · rintro m₁ nx h3 tk3 ⟨e1, ⟨t9, e2⟩, e3⟩ F3 N3
    simp only [List.length_cons, List.length_nil, Nat.zero_add, Nat.one_ne_zero, if_false] at e3
    obtain ⟨tp, e3⟩ := e3
    rw [frame2 e2 e3] at F3
    k_steps
    rename News _ _ _ _ => NZ
    exact hret _ _ _ (by k_asm) (news_sub NZ e1)
end Mine
end
section
open PySem PySem.W PyProof.Rows PySem.Calls PySem.Spec
set_option Elab.async false
namespace Mine

set_option maxRecDepth 100000
theorem tup3 {news : List (Addr × Obj)} {a : Addr} {x y z : Str} {t1 t2 t3 : Tok} (h : (a, ({ cls := .type "tuple", data := .seq #[.str x t1, .str y t2, .str z t3] } : Obj)) ∈ news) : DatIn news (.ref a) (.tuple [.str x, .str y, .str z]) :=
  DatIn.tuple (vs := [.str x t1, .str y t2, .str z t3]) h (.cons (.str _ _) (.cons (.str _ _) (.cons (.str _ _) .nil)))
theorem lt_one {news : List (Addr × Obj)} {q1 : Addr × Obj} (h2 : ∀ p ∈ news, p.1 < q1.1) : ∀ q ∈ news, ∀ p ∈ [q1], q.1 < p.1 := by
  intro q hq p hp
  rw [List.mem_singleton.mp hp]; exact h2 q hq
set_option maxHeartbeats 8000000 in
theorem root_c (w : World) (x : Str) (t : Tok) (hx : x.length ≤ 1048576) (g1 : (Txt.slice x none (some 1) != Str.ofString "/") = false) (g2 : (Txt.slice x (some 1) (some 2) != Str.ofString "/") = true) :
    Make1 w 2 201 [.str x t] noPre (fun tl v => DatIn tl v (.tuple [.str (Str.ofString ""), .str (Str.ofString "/"), .str (Txt.slice x (some 1) none)])) := by
  unfold Make1
  intro p loose mean mg mb dp un gd cn cs a ccd cl outer A₀ base h₀ L m news s Q E B F X N T hk hdp hun hpre hret
  have hret1 : ∀ q1 h' tk', DatIn [q1] (.ref q1.1) (.tuple [.str (Str.ofString ""), .str (Str.ofString "/"), .str (Txt.slice x (some 1) none)]) → Fr h₀ L h' m → News h₀ L h' (q1 :: news) → (∀ q ∈ news, ∀ p ∈ [q1], q.1 < p.1) → Q (.ref q1.1) { s with heap := h', toks := tk' } := fun q1 h' tk' => hret _ [q1] h' tk'
  (refine wpAny_call ?_; k_dflt (refine' code_def ?k1 ?k2 ?k3 ?k4 ?k5 ?kA ?kF ?kK ?k6 ?k7 ?k8 ?k9 ?kB ?_ ?c2 ?c3 ?c4 ?c5; (case kA => exact rfl); (case kF => exact rfl); (case kK => assumption); (case k1 => k_asm); (case k2 => k_asm); (case k3 => k_asm); (case k4 => k_asm); (case k5 => k_asm); (case k6 => k_is); (case k7 => k_is); (case k8 => ktr_room); (case k9 => exact BindsTo.of_eq rfl); (case c5 => decide); (case kB => exact locs rfl); (case c2 => exact rfl); (case c3 => exact rfl); (case c4 => exact rfl); k_whole))
  intro g' L' h' FG' F' N' B' X' T'
  k_steps
  all_goals (first
    | (exfalso; rename ((Txt.slice x none (some 1) != Str.ofString "/") = true) => h9; rw [g1] at h9; cases h9)
    | (exfalso; rename ((Txt.slice x (some 1) (some 2) != Str.ofString "/") = false) => h9; rw [g2] at h9; cases h9)
    | (refine hret1 (_, _) _ _ ?_ (by k_asm) (by k_asm) (lt_one (by assumption)); exact tup3 (.head _)))
end Mine
end
section
open PySem PySem.W PyProof.Rows PySem.Calls PySem.Spec
set_option Elab.async false
namespace Mine

set_option maxRecDepth 100000

set_option maxHeartbeats 8000000 in
theorem ext_c (w : World) (x st en : Str) (t t1 t2 : Tok) (hx : x.length ≤ 1048576) (H : ExtOf x st en) : Make1 w 2 156 [.str x t, .str (Str.ofString "/") t1, .none, .str (Str.ofString ".") t2] noPre (fun tl v => DatIn tl v (.tuple [.str st, .str en])) := by
  unfold Make1
  intro p loose mean mg mb dp un gd cn cs a ccd cl outer A₀ base h₀ L m news s Q E B F X N T hk hdp hun hpre hret
  have hret1 : ∀ q1 h' tk', DatIn [q1] (.ref q1.1) (.tuple [.str st, .str en]) → Fr h₀ L h' m → News h₀ L h' (q1 :: news) → (∀ q ∈ news, ∀ p ∈ [q1], q.1 < p.1) → Q (.ref q1.1) { s with heap := h', toks := tk' } := fun q1 h' tk' => hret _ [q1] h' tk'
  clear hret
  (refine wpAny_call ?_; k_dflt (refine' code_def ?k1 ?k2 ?k3 ?k4 ?k5 ?kA ?kF ?kK ?k6 ?k7 ?k8 ?k9 ?kB ?_ ?c2 ?c3 ?c4 ?c5; (case kA => exact rfl); (case kF => exact rfl); (case kK => assumption); (case k1 => k_asm); (case k2 => k_asm); (case k3 => k_asm); (case k4 => k_asm); (case k5 => k_asm); (case k6 => k_is); (case k7 => k_is); (case k8 => ktr_room); (case k9 => exact BindsTo.of_eq rfl); (case c5 => decide); (case kB => exact locs rfl); (case c2 => exact rfl); (case c3 => exact rfl); (case c4 => exact rfl); k_whole))
  intro g' L' h' FG' F' N' B' X' T'
  k_steps
  · refine hret1 (_, _) _ _ ?_ (by k_asm) (by k_asm) (lt_one (by assumption))
    obtain ⟨e1, e2⟩ := H.some_ _ (by assumption) (by assumption) (by assumption)
    rw [e1, e2]
    exact tup2 (.head _)
  · rename Passed _ _ _ => hP
    rename (Txt.rfind x (Str.ofString ".") ≤ _) => hE
    refine hret1 (_, _) _ _ ?_ (by k_asm) (by k_asm) (lt_one (by assumption))
    obtain ⟨e1, e2⟩ := H.none_ (fun j h1 h2 => by
      have := (hP j h1 (by omega)).2
      dsimp only at this
      split at this
      · cases this
      · rename_i h9; exact Bool.not_eq_true _ ▸ h9)
    rw [e1, e2]
    exact tup2 (.head _)
  · rename (¬ _) => hn
    refine hret1 (_, _) _ _ ?_ (by k_asm) (by k_asm) (lt_one (by assumption))
    obtain ⟨e1, e2⟩ := H.none_ (fun j h1 h2 => absurd h2 (by omega))
    rw [e1, e2]
    exact tup2 (.head _)
set_option maxHeartbeats 2000000 in
theorem splitext_c (w : World) (x st en : Str) (t : Tok) (hx : x.length ≤ 1048576) (H : ExtOf x st en) : Make1 w 3 191 [.str x t] noPre (fun tl v => DatIn tl v (.tuple [.str st, .str en])) := by
  unfold Make1
  intro p loose mean mg mb dp un gd cn cs a ccd cl outer A₀ base h₀ L m news s Q E B F X N T hk hdp hun hpre hret
  (refine wpAny_call ?_; k_dflt (refine' code_def ?k1 ?k2 ?k3 ?k4 ?k5 ?kA ?kF ?kK ?k6 ?k7 ?k8 ?k9 ?kB ?_ ?c2 ?c3 ?c4 ?c5; (case kA => exact rfl); (case kF => exact rfl); (case kK => assumption); (case k1 => k_asm); (case k2 => k_asm); (case k3 => k_asm); (case k4 => k_asm); (case k5 => k_asm); (case k6 => k_is); (case k7 => k_is); (case k8 => ktr_room); (case k9 => exact BindsTo.of_eq rfl); (case c5 => decide); (case kB => exact locs rfl); (case c2 => exact rfl); (case c3 => exact rfl); (case c4 => exact rfl); k_whole))
  intro g' L' h' FG' F' N' B' X' T'
  k_steps
  rename News _ _ _ _ => NZ
  refine make_use (by k_asm) (by k_asm) (by k_asm) NZ (by k_asm) rfl (ext_c _ _ _ _ _ _ _ hx H) (by ktr_room) (by ktr_units) True.intro ?_
  intro v tl h9 tk9 hR F9 N9 l9
  k_steps
  exact hret v tl _ _ hR (by k_asm) (by k_asm) l9
end Mine
end
section
open PySem PySem.W PyProof.Rows PySem.Calls PySem.Spec
set_option Elab.async false
namespace Mine

set_option maxRecDepth 100000

theorem frame3 {m : Str → Option Value} {a b c : Str} {va vb vc : Value} (ha : m a = some va) (hb : m b = some vb) (hc : m c = some vc) : m = fun (y : Str) => if y = a then some va else if y = b then some vb else if y = c then some vc else m y := by
  funext y
  by_cases c1 : y = a
  · rw [if_pos c1, c1, ha]
  · rw [if_neg c1]
    by_cases c2 : y = b
    · rw [if_pos c2, c2, hb]
    · rw [if_neg c2]
      by_cases c3 : y = c
      · rw [if_pos c3, c3, hc]
      · rw [if_neg c3]
theorem r_six {r : Nat} (h : r < 6) : r = 0 ∨ r = 1 ∨ r = 2 ∨ r = 3 ∨ r = 4 ∨ r = 5 := by omega
set_option maxHeartbeats 2000000 in
theorem text_c (w : World) (c : Nat) (t : Tok) (h1 : c < 46656) : Make1 w 2 222 [.int c t] noPre (fun tl v => ∃ t, v = .str (textOf c (Str.ofString "./")) t) := by
  unfold Make1
  intro p loose mean mg mb dp un gd cn cs a ccd cl outer A₀ base h₀ L m news s Q E B F X N T hk hdp hun hpre hret
  (refine wpAny_call ?_; k_dflt (refine' code_def ?k1 ?k2 ?k3 ?k4 ?k5 ?kA ?kF ?kK ?k6 ?k7 ?k8 ?k9 ?kB ?_ ?c2 ?c3 ?c4 ?c5; (case kA => exact rfl); (case kF => exact rfl); (case kK => assumption); (case k1 => k_asm); (case k2 => k_asm); (case k3 => k_asm); (case k4 => k_asm); (case k5 => k_asm); (case k6 => k_is); (case k7 => k_is); (case k8 => ktr_room); (case k9 => exact BindsTo.of_eq rfl); (case c5 => decide); (case kB => exact locs rfl); (case c2 => exact rfl); (case c3 => exact rfl); (case c4 => exact rfl); k_whole))
  intro g' L' h' FG' F' N' B' X' T'
  repeat ((fail_if_success (with_reducible show wpAny _ _ (execs (Stmt.While _ _ _ _ :: _) _) _ _ _)); walk1)
  rename Fr _ _ _ _ => F2
  rename News _ _ _ _ => N2
  refine wpAny_execs_cons ?_
  refine While_inv2 (fun n m nx => ∃ (k : Nat) (acc : Str) (j : Nat), n = k ∧ (∃ t, m "count" = some (.int k t)) ∧ (∃ t, m "text" = some (.str acc t)) ∧ (∃ ls t1 t2 t3 t4 t5 t6, m "signs" = some (.ref ls) ∧ (ls, listOf #[.str (Str.ofString "a") t1, .str (Str.ofString ".") t2, .str (Str.ofString "/") t3, .str (Str.ofString "b") t4, .str (Str.ofString "/../") t5, .str (Str.ofString "a.b") t6] 0) ∈ nx) ∧ (∀ q ∈ news, q ∈ nx) ∧
    textOf k acc = textOf c (Str.ofString "./") ∧ k < 6 ^ j ∧ acc.length + 4 * j ≤ 26) (n₀ := c) F2 N2 ⟨c, _, 6, rfl, ⟨_, rfl⟩, ⟨_, rfl⟩, ⟨_, _, _, _, _, _, _, rfl, .head _⟩, fun q hq => .tail _ hq, rfl, by omega, by decide⟩ ?_
  rintro n m₁ nx h₁ tk₁ F₁ N₁ ⟨k, acc, j, rfl, ⟨t1, e1⟩, ⟨t2, e2⟩, ⟨ls, u1, u2, u3, u4, u5, u6, e3, hls⟩, e4, e5, e6, e7⟩
  rw [frame3 e1 e2 e3] at F₁
  have N₃ := news_sub (b := (ls, _) :: nx) N₁ (fun q hq => (List.mem_cons.mp hq).elim (fun e => e ▸ hls) id)
  clear N₁
  have e8 : acc.length ≤ 26 := by omega
  k_steps
  · rename (0 < _) => hpos
    have hr : (↑n : Int).fmod 6 = ((n % 6 : Nat) : Int) := by rw [Int.fmod_eq_emod_of_nonneg _ (by omega)]; omega
    have hdv : (↑n : Int).fdiv 6 = ((n / 6 : Nat) : Int) := by rw [Int.fdiv_eq_ediv_of_nonneg _ (by omega)]; omega
    have hlt : n % 6 < 6 := Nat.mod_lt _ (by decide)
    have hn0 : 0 < n := by omega
    have hto : textOf n acc = textOf (n / 6) (acc ++ signOf (n % 6)) := by rw [textOf, if_pos hn0]
    rw [hto] at e5
    obtain ⟨j', rfl⟩ : ∃ j', j = j' + 1 := ⟨j - 1, by cases j with | zero => simp at e6; omega | succ j => rfl⟩
    have e6' : n / 6 < 6 ^ j' := by rw [Nat.pow_succ] at e6; omega
    have hlen : ∀ r, (signOf r).length ≤ 4 := fun r => by
      match r with
      | 0 => decide
      | 1 => decide
      | 2 => decide
      | 3 => decide
      | 4 => decide
      | _ + 5 => show (Str.ofString "a.b").length ≤ 4; decide
    have e7' : (acc ++ signOf (n % 6)).length + 4 * j' ≤ 26 := by rw [strLen_append]; have := hlen (n % 6); omega
    rw [hr]
    have hr6 : n % 6 < 6 := Nat.mod_lt _ (by decide)
    generalize hrr : n % 6 = r at *
    rcases r_six hr6 with rfl | rfl | rfl | rfl | rfl | rfl
    all_goals (
      k_steps
      rename News _ _ _ _ => NZ
      refine ⟨_, _, _, _, n / 6, rfl, by k_asm, NZ, by omega, n / 6, acc ++ _, j', rfl, ⟨_, by rw [← hdv]; rfl⟩, ⟨_, rfl⟩, ⟨ls, _, _, _, _, _, _, rfl, mem2⟩, fun q hq => .tail _ (.tail _ (e4 q hq)), e5, e6', e7'⟩)
  · rename (¬ _) => hneg
    have hn0 : ¬ 0 < n := by omega
    rw [textOf, if_neg hn0] at e5
    rename News _ _ _ _ => NZ
    refine hret _ [] _ _ ⟨t2, by rw [e5]⟩ (by k_asm) (news_sub (b := [] ++ news) NZ (fun q hq => .tail _ (e4 q hq))) (fun _ _ _ hp => nomatch hp)
end Mine
end
section
open PySem PySem.W PyProof.Rows PySem.Calls PySem.Spec
set_option Elab.async false
namespace Mine

set_option maxRecDepth 100000

theorem datAll_strs {news : List (Addr × Obj)} {vs : List Value} {ss : List Str} (h : DatAll news vs (ss.map .str)) : StrsAre vs ss := by
  induction ss generalizing vs with
  | nil => cases h; exact .nil
  | cons y r ih =>
    cases h with
    | cons h1 h2 =>
      cases h1
      exact .cons _ _ (ih h2)
theorem strs_datAll {news : List (Addr × Obj)} {vs : List Value} {ss : List Str} (h : StrsAre vs ss) : DatAll news vs (ss.map .str) := by
  induction h with
  | nil => exact .nil
  | cons y t _ ih => exact .cons (.str _ _) ih
theorem lv_dat {news : List (Addr × Obj)} {v : Value} {ss : List Str} (h : LV news v ss) : DatIn news v (.list (ss.map .str)) := by
  obtain ⟨r, vs, c, rfl, hm, hs⟩ := h
  exact .list hm (strs_datAll hs)
theorem frame1 {m : Str → Option Value} {a : Str} {va : Value} (ha : m a = some va) : m = fun (y : Str) => if y = a then some va else m y := by
  funext y
  by_cases c1 : y = a
  · rw [if_pos c1, c1, ha]
  · rw [if_neg c1]
theorem pick1 (vs : List Value) : slicePick vs.toArray none (some (-1)) none = (vs.take (vs.length - 1)).toArray := by
  have := slicePick_butLast vs.toArray 1 (Nat.le_refl 1)
  simpa using this
theorem lv_arr {news : List (Addr × Obj)} {a : Addr} {arr : Array Value} {c : Nat} {xs : List Value} {ss : List Str} (h : (a, ({ cls := .type "list", data := .seq arr c } : Obj)) ∈ news) (e : arr = xs.toArray) (hs : StrsAre xs ss) : LV news (.ref a) ss := by
  subst e; exact ⟨_, _, _, rfl, h, hs⟩
theorem memN5 {α : Type} {a b c d e f : α} {r : List α} (h : f ∈ r) : f ∈ a :: b :: c :: d :: e :: r := .tail _ (.tail _ (.tail _ (.tail _ (.tail _ h))))
theorem memN3 {α : Type} {a b c f : α} {r : List α} (h : f ∈ r) : f ∈ a :: b :: c :: r := .tail _ (.tail _ (.tail _ h))
/-- a call that may make objects and changes none; the answer may be an old object -/
abbrev Grow1 (w : World) (k : Nat) (f : Addr) (vs : List Value) (pre : List (Addr × Obj) → Prop) (R : List (Addr × Obj) → Value → Prop) : Prop :=
  ∀ (p : Program) (loose : List Str) (mean : ExcName → Option Value) (mg mb : Str → Option Value) (dp un : Nat) (gd : Option (List Code)) (cn : Str) (cs : Scope) (a : Addr) (ccd : Value) (cl : List (Str × Addr)) (outer : List Env) (A₀ : Around) (base h₀ : Heap) (L : Addr) (m : Str → Option Value) (news : List (Addr × Obj)) (s : Shared) (Q E : Value → Shared → Prop),
    Below A₀ base outer h₀ → Fr h₀ L s.heap m → (Mine.hd.heap_1 w.params).In h₀ → News h₀ L s.heap news → Top p loose mean mg mb h₀ → cs.kind = .function →
    dp + k < recursionLimit → un + 8 * k < cLine → pre news →
    (∀ (v : Value) (nx : List (Addr × Obj)) (h' : Heap) (tk' : Nat), R nx v → (∀ q ∈ news, q ∈ nx) → Fr h₀ L h' m → News h₀ L h' nx → Q v { s with heap := h', toks := tk' }) →
      wpAny (model PySem.Challenge.rw_in0194_01.row.prog w) (ktrTop dp un gd cn cs L a ccd cl outer) (call (.ref f) vs) Q E s
/-- the same, R told of the ledger ahead too -/
abbrev Grow2 (w : World) (k : Nat) (f : Addr) (vs : List Value) (pre : List (Addr × Obj) → Prop) (R : List (Addr × Obj) → List (Addr × Obj) → Value → Prop) : Prop :=
  ∀ (p : Program) (loose : List Str) (mean : ExcName → Option Value) (mg mb : Str → Option Value) (dp un : Nat) (gd : Option (List Code)) (cn : Str) (cs : Scope) (a : Addr) (ccd : Value) (cl : List (Str × Addr)) (outer : List Env) (A₀ : Around) (base h₀ : Heap) (L : Addr) (m : Str → Option Value) (news : List (Addr × Obj)) (s : Shared) (Q E : Value → Shared → Prop),
    Below A₀ base outer h₀ → Fr h₀ L s.heap m → (Mine.hd.heap_1 w.params).In h₀ → News h₀ L s.heap news → Top p loose mean mg mb h₀ → cs.kind = .function →
    dp + k < recursionLimit → un + 8 * k < cLine → pre news →
    (∀ (v : Value) (nx : List (Addr × Obj)) (h' : Heap) (tk' : Nat), R news nx v → (∀ q ∈ news, q ∈ nx) → Fr h₀ L h' m → News h₀ L h' nx → Q v { s with heap := h', toks := tk' }) →
      wpAny (model PySem.Challenge.rw_in0194_01.row.prog w) (ktrTop dp un gd cn cs L a ccd cl outer) (call (.ref f) vs) Q E s
set_option maxHeartbeats 2000000 in
theorem names_c (w : World) (nl : Addr) (x : Str) (t : Tok) (ns : List Str) (hx : x.length ≤ 1048576) (hns : ns.length ≤ 100000) (hw : (Txt.split x (Str.ofString "/")).length ≤ 100000) : Grow2 w 2 243 [.ref nl, .str x t] (fun news => LV news (.ref nl) ns) (fun news nx v => LV nx v ((Txt.split x (Str.ofString "/")).foldl stepN ns) ∧ (v = .ref nl ∨ ∃ r, v = .ref r ∧ ∀ q ∈ news, q.1 < r)) := by
  unfold Grow2
  intro p loose mean mg mb dp un gd cn cs a ccd cl outer A₀ base h₀ L m news s Q E B F X N T hk hdp hun hpre hret
  (refine wpAny_call ?_; k_dflt (refine' code_def ?k1 ?k2 ?k3 ?k4 ?k5 ?kA ?kF ?kK ?k6 ?k7 ?k8 ?k9 ?kB ?_ ?c2 ?c3 ?c4 ?c5; (case kA => exact rfl); (case kF => exact rfl); (case kK => assumption); (case k1 => k_asm); (case k2 => k_asm); (case k3 => k_asm); (case k4 => k_asm); (case k5 => k_asm); (case k6 => k_is); (case k7 => k_is); (case k8 => ktr_room); (case k9 => exact BindsTo.of_eq rfl); (case c5 => decide); (case kB => exact locs rfl); (case c2 => exact rfl); (case c3 => exact rfl); (case c4 => exact rfl); k_whole))
  intro g' L' h' FG' F' N' B' X' T'
  have hlv := hpre
  refine wpAny_execs_cons ?_
  refine For_invVF F' (by rfl) (by rfl) ?_ (by intro _; rfl) (by passes_own)
  repeat ((fail_if_success (with_reducible show wpAny _ _ (pyIter _) _ _ _)); walk1)
  rename List (Str × Tok) => l
  rename (List.map _ _ = Txt.split _ _) => hsp
  rename StrsAre _ _ => hss
  rename (∀ a ∈ List.map _ _, Str.length a ≤ Str.length x) => hbd
  rename News _ _ _ _ => N2
  refine mlist_iterV (vs := strValues l) (nn := 0) (fun i m nx => (∀ q ∈ news, q ∈ nx) ∧ ∃ v, m "names" = some v ∧ LV nx v (((l.map (·.1)).take i).foldl stepN ns) ∧ (v = .ref nl ∨ ∃ r, v = .ref r ∧ ∀ q ∈ news, q.1 < r)) rfl mem1 (by k_asm) N2 ?_ ?_ ?_ ?_
  · rintro i m nx nx' ⟨e1, v, e2, ⟨r, vs, c, rfl, hm, hs⟩, e3⟩ hs'
    exact ⟨fun q hq => hs' q (e1 q hq) (.inr (.tail _ hq)), _, e2, ⟨r, vs, c, rfl, hs' _ hm (.inl fun _ _ _ e => nomatch e), hs⟩, e3⟩
  · exact ⟨fun q hq => .tail _ hq, _, rfl, (by obtain ⟨r, vs, c, e, hm, hs⟩ := hlv; exact ⟨r, vs, c, e, .tail _ hm, hs⟩), .inl rfl⟩
  · intro i v m₁ nx s₁ it hv hIt hl₁ hJ F₁ N₁
    obtain ⟨e1, v', e2, ⟨r, vs, c, rfl, hm, hs⟩, e3⟩ := hJ
    obtain ⟨wd, tw, rfl, hwd⟩ := hss.item i v hv
    have hst := take_succ_fold (l.map (·.1)) i wd stepN ns hwd
    have hb2 : (((l.map (·.1)).take i).foldl stepN ns).length ≤ 200000 := by
      have h1 := foldN_len ((l.map (·.1)).take i) ns
      have h2 : ((l.map (·.1)).take i).length ≤ 100000 := by rw [hsp, List.length_take]; omega
      omega
    rw [frame1 e2] at F₁
    dsimp only at F₁
    generalize ((l.map (·.1)).take i).foldl stepN ns = cur at *
    have N₃ := news_sub (b := (r, _) :: it :: nx) N₁ (fun q hq => (List.mem_cons.mp hq).elim (fun e => e ▸ .tail _ hm) id)
    have hvl : vs.length ≤ 200000 := by rw [hs.length]; exact hb2
    have hs' : True ∧ StrsAre vs cur := ⟨trivial, hs⟩
    clear N₁
    k_steps
    · rename ((_ == _) = true) => hq
      rename News _ _ _ _ => NZ
      have hst2 : stepN cur wd = cur.take (cur.length - 1) := by unfold stepN; rw [if_pos (eq_of_beq hq), List.dropLast_eq_take]
      refine ⟨.inl rfl, _, _, _, _, rfl, by k_asm, NZ, mem3, memN3 hl₁, fun q hq => memN3 (e1 q hq), _, rfl, ?_, ?_⟩
      · rw [hst, hst2, ← hs'.2.length]
        exact lv_arr (.head _) (pick1 vs) (hs'.2.take' _)
      · exact .inr ⟨_, rfl, fun q hq => Nat.lt_succ_of_lt (Heap.lt_size ((by assumption : News g' L' _ ((r, listOf vs.toArray c) :: it :: nx)) q (.tail _ (.tail _ (e1 q hq)))).1)⟩
    · rename ((_ == _) = false) => hq
      rename (List.any _ _ = true) => hy
      rename News _ _ _ _ => NZ
      have hst2 : stepN cur wd = cur := by
        unfold stepN
        rw [if_neg (by intro e; rw [e] at hq; simp at hq), if_pos (by simp only [List.any_cons, List.any_nil, Bool.or_false, Bool.or_eq_true, beq_iff_eq] at hy; exact hy.imp Eq.symm Eq.symm)]
      refine ⟨.inl rfl, _, _, _, _, rfl, by k_asm, NZ, mem3, memN3 hl₁, fun q hq => memN3 (e1 q hq), _, rfl, ?_, e3⟩
      rw [hst, hst2]
      exact ⟨r, vs, c, rfl, mem2, hs'.2⟩
    · rename ((_ == _) = false) => hq
      rename (List.any _ _ = false) => hy
      rename News _ _ _ _ => NZ
      have hst2 : stepN cur wd = cur ++ [wd] := by
        unfold stepN
        rw [if_neg (by intro e; rw [e] at hq; simp at hq), if_neg (by
          intro h; simp only [List.any_cons, List.any_nil, Bool.or_false, Bool.or_eq_false_iff, beq_eq_false_iff_ne] at hy
          rcases h with h | h
          · exact hy.1 h.symm
          · exact hy.2 h.symm)]
      refine ⟨.inl rfl, _, _, _, _, rfl, by k_asm, NZ, mem5, memN5 hl₁, fun q hq => memN5 (e1 q hq), _, rfl, ?_, ?_⟩
      rotate_left
      · exact .inr ⟨_, rfl, fun q hq => Heap.lt_size ((by assumption : News g' L' _ (_ :: _ :: (r, listOf vs.toArray c) :: it :: nx)) q (.tail _ (memN3 (e1 q hq)))).1⟩
      rw [hst, hst2]
      exact lv_arr (xs := vs ++ [Value.str wd tw]) (.head _) (by simp) (StrsAre.append' hs'.2 (.cons _ _ .nil))
  · rintro m₁ nx h3 tk3 ⟨e1, v', e2, e3, e4⟩ F3 N3
    have hlen : (strValues l).length = (l.map (·.1)).length := hss.length
    rw [hlen, List.take_length, hsp] at e3
    rw [frame1 e2] at F3
    k_steps
    rename News _ _ _ _ => NZ
    exact hret _ nx _ _ ⟨e3, e4⟩ e1 (by k_asm) (by k_asm)
end Mine
end
section
open PySem PySem.W PyProof.Rows PySem.Calls PySem.Spec
set_option Elab.async false
namespace Mine

set_option maxRecDepth 100000

theorem frame5 {m : Str → Option Value} {a b c d e : Str} {va vb vc vd ve : Value} (ha : m a = some va) (hb : m b = some vb) (hc : m c = some vc) (hd : m d = some vd) (he : m e = some ve) :
    m = fun (y : Str) => if y = a then some va else if y = b then some vb else if y = c then some vc else if y = d then some vd else if y = e then some ve else m y := by
  funext y
  by_cases c1 : y = a
  · rw [if_pos c1, c1, ha]
  · rw [if_neg c1]
    by_cases c2 : y = b
    · rw [if_pos c2, c2, hb]
    · rw [if_neg c2]
      by_cases c3 : y = c
      · rw [if_pos c3, c3, hc]
      · rw [if_neg c3]
        by_cases c4 : y = d
        · rw [if_pos c4, c4, hd]
        · rw [if_neg c4]
          by_cases c5 : y = e
          · rw [if_pos c5, c5, he]
          · rw [if_neg c5]
theorem str_len0 {x : Str} (h : (x.length : Int) = 0) : x = Str.ofString "" := by
  have h2 : x.length = 0 := by omega
  obtain ⟨a⟩ := x
  have : a = #[] := Array.eq_empty_of_size_eq_zero h2
  subst this; rfl
theorem strs_snoc {vs : List Value} {v : Value} {ss : List Str} (h : StrsAre (vs ++ [v]) ss) : ∃ ss' x, ss = ss' ++ [x] ∧ StrsAre vs ss' ∧ ∃ t, v = .str x t := by
  induction vs generalizing ss with
  | nil => cases h with | cons y t h => cases h; exact ⟨[], y, rfl, .nil, t, rfl⟩
  | cons a r ih =>
    cases h with
    | cons y t h =>
      obtain ⟨ss', x, rfl, h1, h2⟩ := ih h
      exact ⟨y :: ss', x, rfl, .cons _ _ h1, h2⟩
theorem truthy_head {prog : Program} {w : World} {A : Around} {E : Value → Shared → Prop} {s : Shared} {h₀ : Heap} {L a : Addr} {vs : List Value} {c : Nat} {nx : List (Addr × Obj)} {Q : Bool → Shared → Prop} (N : News h₀ L s.heap ((a, listOf vs.toArray c) :: nx)) (hz : vs.length ≤ 1000000) (h : Q (!vs.isEmpty) { s with toks := s.toks + 1 + 1 }) : wpAny (model prog w) A (truthy (.ref a)) Q E s :=
  wpAny_truthy_list (items := vs.toArray) (N.isList mem1) (by rw [List.size_toArray]; omega) (by rw [List.isEmpty_toArray]; exact h)
set_option maxHeartbeats 4000000 in
theorem norm_c (w : World) (x : Str) (t : Tok) (hx : x.length ≤ 1048576) (g1 : (Txt.slice x none (some 1) != Str.ofString "/") = false) (g2 : (Txt.slice x (some 1) (some 2) != Str.ofString "/") = true)
    (hw : (Txt.split (Txt.slice x (some 1) none) (Str.ofString "/")).length ≤ 100000)
    (hwt : (((Txt.split (Txt.slice x (some 1) none) (Str.ofString "/")).foldl stepN []).map (·.length)).sum + ((Txt.split (Txt.slice x (some 1) none) (Str.ofString "/")).foldl stepN []).length ≤ 1000000)
    (hjl : (Txt.join (Str.ofString "/") ((Txt.split (Txt.slice x (some 1) none) (Str.ofString "/")).foldl stepN [])).length ≤ 1000000)
    (hdd : ∀ i, Str.ofString ".." ∉ ((Txt.split (Txt.slice x (some 1) none) (Str.ofString "/")).take i).foldl stepN []) :
    Grow1 w 4 215 [.str x t] noPre (fun nx v => ∃ t, v = .str (Str.ofString "/" ++ Txt.join (Str.ofString "/") ((Txt.split (Txt.slice x (some 1) none) (Str.ofString "/")).foldl stepN [])) t) := by
  unfold Grow1
  intro p loose mean mg mb dp un gd cn cs a ccd cl outer A₀ base h₀ L m news s Q E B F X N T hk hdp hun hpre hret
  (refine wpAny_call ?_; k_dflt (refine' code_def ?k1 ?k2 ?k3 ?k4 ?k5 ?kA ?kF ?kK ?k6 ?k7 ?k8 ?k9 ?kB ?_ ?c2 ?c3 ?c4 ?c5; (case kA => exact rfl); (case kF => exact rfl); (case kK => assumption); (case k1 => k_asm); (case k2 => k_asm); (case k3 => k_asm); (case k4 => k_asm); (case k5 => k_asm); (case k6 => k_is); (case k7 => k_is); (case k8 => ktr_room); (case k9 => exact BindsTo.of_eq rfl); (case c5 => decide); (case kB => exact locs rfl); (case c2 => exact rfl); (case c3 => exact rfl); (case c4 => exact rfl); k_whole))
  intro g' L' h' FG' F' N' B' X' T'
  k_steps
  rotate_left
  · exfalso
    rename ((_ : Int) = 0) => h9
    have h8 := str_len0 h9
    rw [h8] at g1
    revert g1
    decide +kernel
  rename News _ _ _ _ => NA
  refine make_use (by k_asm) (by k_asm) (by k_asm) NA (by k_asm) rfl (root_c _ _ _ hx g1 g2) (by ktr_room) (by ktr_units) True.intro ?_
  intro v tl h9 tk9 hR F9 N9 l9
  cases hR with
  | @tuple a0 vs0 n0 ds0 hm0 hall0 =>
  cases hall0 with
  | cons q1 r1 =>
  cases q1 with
  | str _ u1 =>
  cases r1 with
  | cons q2 r2 =>
  cases q2 with
  | str _ u2 =>
  cases r2 with
  | cons q3 r3 =>
  cases q3 with
  | str _ u3 =>
  cases r3 with
  | nil =>
  have N10 := news_sub (b := (a0, _) :: news) N9 (fun q hq => (List.mem_cons.mp hq).elim (fun e => e ▸ List.mem_append_left _ hm0) (List.mem_append_right _))
  clear N9 NA
  repeat ((fail_if_success (with_reducible show wpAny _ _ (execs (Stmt.For _ _ _ _ _ :: _) _) _ _ _)); walk1)
  rename List (Str × Tok) => l
  rename (List.map _ _ = Txt.split _ _) => hsp
  rename StrsAre _ _ => hss
  rename (∀ a ∈ List.map _ _, Str.length a ≤ _) => hbd
  rename Fr _ _ _ _ => F2
  rename News _ _ _ _ => N2
  rename (_ < _ ∧ _ < _ ∧ AllLt _ _) => hlt
  refine wpAny_execs_cons ?_
  refine For_invVF F2 (by rfl) (by rfl) ?_ (by intro _; rfl) (by passes_own)
  repeat ((fail_if_success (with_reducible show wpAny _ _ (pyIter _) _ _ _)); walk1)
  obtain ⟨la, hla⟩ : ∃ la, la = (_ : Addr) ∧ la < _ := ⟨_, rfl, hlt.1⟩
  refine mlist_iterV (vs := strValues l) (nn := 0) (fun i m nx => (∀ q ∈ news, q ∈ nx) ∧ ∃ nc vs c, m "new_comps" = some (.ref nc) ∧ (nc, listOf vs.toArray c) ∈ nx ∧ StrsAre vs (((l.map (·.1)).take i).foldl stepN []) ∧ (∀ q ∈ news, q.1 < nc) ∧ (∃ t, m "initial_slashes" = some (.str (Str.ofString "/") t)) ∧ (∃ t, m "dot" = some (.str (Str.ofString ".") t)) ∧ (∃ t, m "dotdot" = some (.str (Str.ofString "..") t)) ∧ (∃ t, m "sep" = some (.str (Str.ofString "/") t)) ∧ la < nc) rfl mem2 (by k_asm) N2 ?_ ?_ ?_ ?_
  · rintro i m nx nx' ⟨e1, nc, vs, c, e2, e3, e4, e5⟩ hs'
    exact ⟨fun q hq => hs' q (e1 q hq) (.inr (memN3 hq)), nc, vs, c, e2, hs' _ e3 (.inl fun _ _ _ e => nomatch e), e4, e5⟩
  · exact ⟨fun q hq => memN3 hq, _, [], 0, rfl, .head _, .nil, allLt_lt hlt.2.2, ⟨_, rfl⟩, ⟨_, rfl⟩, ⟨_, rfl⟩, ⟨_, rfl⟩, hla.2⟩
  · intro i v m₁ nx s₁ it hv hIt hl₁ hJ F₁ N₁
    obtain ⟨e1, nc, vs, c, e2, e3, e4, e5, ⟨t6, e6⟩, ⟨t7, e7⟩, ⟨t8, e8⟩, ⟨t9, e9⟩, e10⟩ := hJ
    obtain ⟨wd, tw, rfl, hwd⟩ := hss.item i v hv
    have hwl : wd.length ≤ 1048576 := Nat.le_trans (hbd wd (List.mem_of_getElem? hwd)) (Nat.le_trans (Txt.slice_le _ _ _) hx)
    have hdd1 := hdd i
    rw [← hsp] at hdd1
    have hst := take_succ_fold (l.map (·.1)) i wd stepN [] hwd
    have hb2 : (((l.map (·.1)).take i).foldl stepN []).length ≤ 200000 := by
      have h1 := foldN_len ((l.map (·.1)).take i) []
      have h2 : ((l.map (·.1)).take i).length ≤ 100000 := by rw [hsp, List.length_take]; omega
      simp only [List.length_nil] at h1
      omega
    rw [frame5 e2 e6 e7 e8 e9] at F₁
    dsimp only at F₁
    generalize ((l.map (·.1)).take i).foldl stepN [] = cur at *
    have N₃ := news_sub (b := (nc, _) :: it :: nx) N₁ (fun q hq => (List.mem_cons.mp hq).elim (fun e => e ▸ .tail _ e3) id)
    have hvl : vs.length ≤ 200000 := by rw [e4.length]; exact hb2
    have e4' : True ∧ StrsAre vs cur := ⟨trivial, e4⟩
    clear N₁ e4
    have hitnc : it.1 ≠ nc := news_ne N₃ (a := it.1) (o := it.2) mem2 mem1 (by obtain ⟨_, _, _, e, _⟩ := hIt; rw [e]; intro e; cases e)
    have hmo : ∀ {o : Obj}, ∀ q ∈ nx, q.1 ≠ nc → q ∈ (nc, o) :: (it :: nx).filter (fun p => decide (p.1 ≠ nc)) := fun q hq h => .tail _ (mem_filt (.tail _ hq) h)
    have hlne : la ≠ nc := Nat.ne_of_lt e10
    have H1 : True ∧ (∀ q ∈ news, q ∈ nx) ∧ (∀ q ∈ news, q.1 < nc) ∧ (∀ j, (".." : Str) ∉ (((Txt.split (Txt.slice x (some 1) none) (Str.ofString "/")).take j).foldl stepN [])) := ⟨trivial, e1, e5, hdd⟩
    clear e1 e5 hmo hbd hdd
    by_cases w1 : wd = Str.ofString ""
    · subst w1
      have hst2 : stepN cur (Str.ofString "") = cur := by unfold stepN; rw [if_neg (by decide), if_pos (.inl rfl)]
      k_steps
      rename News _ _ _ _ => NZ
      show TurnEnd _ _ _ _ _ _ _
      refine ⟨.inr rfl, _, _, _, _, rfl, by k_asm, NZ, mem2, .tail _ (.tail _ (hla.1 ▸ hl₁)), fun q hq => .tail _ (.tail _ (H1.2.1 q hq)), nc, vs, c, rfl, mem1, by rw [hst, hst2]; exact e4'.2, H1.2.2.1, ⟨_, rfl⟩, ⟨_, rfl⟩, ⟨_, rfl⟩, ⟨_, rfl⟩, e10⟩
    by_cases w2 : wd = Str.ofString "."
    · subst w2
      have hst2 : stepN cur (Str.ofString ".") = cur := by unfold stepN; rw [if_neg (by decide), if_pos (.inr rfl)]
      k_steps
      rename News _ _ _ _ => NZ
      show TurnEnd _ _ _ _ _ _ _
      refine ⟨.inr rfl, _, _, _, _, rfl, by k_asm, NZ, mem2, .tail _ (.tail _ (hla.1 ▸ hl₁)), fun q hq => .tail _ (.tail _ (H1.2.1 q hq)), nc, vs, c, rfl, mem1, by rw [hst, hst2]; exact e4'.2, H1.2.2.1, ⟨_, rfl⟩, ⟨_, rfl⟩, ⟨_, rfl⟩, ⟨_, rfl⟩, e10⟩
    by_cases w3 : wd = Str.ofString ".."
    · subst w3
      have hst2 : stepN cur (Str.ofString "..") = cur.dropLast := by unfold stepN; rw [if_pos rfl]
      rcases List.eq_nil_or_concat vs with rfl | ⟨vs', lst, e11⟩
      · have hcur : cur = [] := by cases e4'.2; rfl
        subst hcur
        k_steps
        rename News _ _ _ _ => NZ
        refine ⟨.inl rfl, _, _, _, _, rfl, by k_asm, NZ, mem2, .tail _ (.tail _ (hla.1 ▸ hl₁)), fun q hq => .tail _ (.tail _ (H1.2.1 q hq)), nc, [], c, rfl, mem1, by rw [hst, hst2]; exact .nil, H1.2.2.1, ⟨_, rfl⟩, ⟨_, rfl⟩, ⟨_, rfl⟩, ⟨_, rfl⟩, e10⟩
      · rw [List.concat_eq_append] at e11
        subst e11
        obtain ⟨cur', ls, rfl, hs1, tl1, rfl⟩ := strs_snoc e4'.2
        have hls : ls ≠ Str.ofString ".." := fun e => hdd1 (by rw [e]; simp)
        repeat (any_goals (first
          | ((with_reducible show wpAny _ _ (truthy (Value.ref _)) _ _ _); (rename News _ _ _ _ => nT); (refine truthy_head nT (by first | omega | (simp only [List.length_append, List.length_cons, List.length_nil]; omega)) ?_); (try simp only [List.isEmpty_cons, List.isEmpty_nil, Bool.not_false, Bool.not_true]))
          | (exfalso; rename (List.isEmpty _ = true) => h9; simp at h9; done)
          | ((fail_if_success (with_reducible show wpAny _ _ (subscriptTail _ _ _ _) _ _ _)); walk1)))
        rename News _ _ _ _ => NZ
        refine tail_any (T := "list") (NZ.isList mem1).typeIs PySem.slot_list_getitem.lookup (wpAny_getItem_list_neg (NZ.isList mem1) (by decide) (by simp; omega) (by decide) (x := .str ls tl1) (by rw [List.size_toArray, List.length_append, List.length_singleton, show ((-1 : Int) + ((vs'.length + 1 : Nat) : Int)).toNat = vs'.length by omega]; simp) ?_) (by with_unfolding_all rfl)
        repeat (any_goals (first
          | ((with_reducible show wpAny _ _ (truthy (Value.ref _)) _ _ _); (rename News _ _ _ _ => nT); (refine truthy_head nT (by first | omega | (simp only [List.length_append, List.length_cons, List.length_nil]; omega)) ?_); (try simp only [List.isEmpty_cons, List.isEmpty_nil, Bool.not_false, Bool.not_true]))
          | (exfalso; exact hls (eq_of_beq (by assumption)))
          | (exfalso; rename (List.isEmpty _ = true) => h9; simp at h9; done)
          | ((fail_if_success (with_reducible show wpAny _ _ (call (Value.builtin "list.pop") _) _ _ _)); walk1)))
        rename News _ _ _ _ => NY
        have NB := news_bring NY mem1
        show wpAny _ _ (call (.builtin "list.pop") [.ref nc]) _ _ _
        refine kl_pop (p := vs') (y := .str ls tl1) (by k_asm) NB (by simpa using kpa_last (.str ls tl1) vs') (Upd.head filt_ne) (by rw [sizeLine_eq, List.toList_toArray]; omega) ?_
        intro h11 F11 N11
        k_steps
        have hmf : ∀ q ∈ nx, q.1 ≠ nc → q ∈ (nc, listOf vs'.toArray (c + 1)) :: ((nc, listOf (vs' ++ [Value.str ls tl1]).toArray c) :: it :: nx).filter (fun p => decide (p.1 ≠ nc)) := fun q hq h => .tail _ (mem_filt (.tail _ (.tail _ hq)) h)
        refine ⟨.inl rfl, h11, _, _, _, rfl, F11, N11, .tail _ (mem_filt mem2 hitnc), hmf _ hl₁ (hla.1 ▸ hlne), fun q hq => hmf q (H1.2.1 q hq) (Nat.ne_of_lt (H1.2.2.1 q hq)), nc, _, _, rfl, .head _, by rw [hst, hst2, List.dropLast_concat]; exact hs1, H1.2.2.1, ⟨_, rfl⟩, ⟨_, rfl⟩, ⟨_, rfl⟩, ⟨_, rfl⟩, e10⟩
    · have hst2 : stepN cur wd = cur ++ [wd] := by unfold stepN; rw [if_neg w3, if_neg (fun h => h.elim w1 w2)]
      repeat (any_goals (first
        | ((with_reducible show wpAny _ _ (truthy (Value.ref _)) _ _ _); (rename News _ _ _ _ => nT); (refine truthy_head nT (by first | omega | (simp only [List.length_append, List.length_cons, List.length_nil]; omega)) ?_); (try simp only [List.isEmpty_cons, List.isEmpty_nil, Bool.not_false, Bool.not_true]))
        | (exfalso; exact w2 (eq_of_beq (by assumption)))
        | (exfalso; rename ((_ != _) = false) => h9; exact w3 (by simpa using h9))
        | (exfalso; rename ((_ : Int) = 0) => h9; exact w1 (str_len0 h9))
        | ((fail_if_success (with_reducible show wpAny _ _ (call (Value.builtin "list.append") _ _) _ _ _)); walk1)))
      rename News _ _ _ _ => NZ
      have NB := news_bring NZ mem1
      refine append_K (by k_asm) NB (Upd.head filt_ne) ?_ (by rw [sizeLine_eq, List.size_toArray]; omega)
      intro h11 F11 N11
      rw [List.push_toArray] at N11
      k_steps
      have hmf : ∀ q ∈ nx, q.1 ≠ nc → q ∈ (nc, listOf (vs ++ [Value.str wd tw]).toArray (c + 1)) :: ((nc, listOf vs.toArray c) :: it :: nx).filter (fun p => decide (p.1 ≠ nc)) := fun q hq h => .tail _ (mem_filt (.tail _ (.tail _ hq)) h)
      refine ⟨.inl rfl, h11, _, _, _, rfl, F11, N11, .tail _ (mem_filt mem2 hitnc), hmf _ hl₁ (hla.1 ▸ hlne), fun q hq => hmf q (H1.2.1 q hq) (Nat.ne_of_lt (H1.2.2.1 q hq)), nc, _, _, rfl, .head _, by rw [hst, hst2]; exact StrsAre.append' e4'.2 (.cons _ _ .nil), H1.2.2.1, ⟨_, rfl⟩, ⟨_, rfl⟩, ⟨_, rfl⟩, ⟨_, rfl⟩, e10⟩
  · rintro m₁ nx h3 tk3 ⟨e1, nc, vs, c, e2, e3, e4, e5, ⟨t6, e6⟩, ⟨t7, e7⟩, ⟨t8, e8⟩, ⟨t9, e9⟩, e10⟩ F3 N3
    rw [frame5 e2 e6 e7 e8 e9] at F3
    have hlen : (strValues l).length = (l.map (·.1)).length := hss.length
    rw [hlen, List.take_length, hsp] at e4
    k_steps
    rename News _ _ _ _ => NZ
    refine join_listW (NZ.isList e3) (by simpa using e4) (by decide) (by omega) ?_
    intro t13 k13
    k_steps
    exact hret _ nx _ _ ⟨_, rfl⟩ e1 (by k_asm) (by k_asm)
end Mine
end
section
open PySem PySem.W PyProof.Rows PySem.Calls PySem.Spec
set_option Elab.async false
namespace Mine

set_option maxRecDepth 100000

theorem joinF_empty (x y : Str) (h : (x.length : Int) = 0) : joinF x y = y := by
  unfold joinF; split
  · rfl
  · first | rw [if_pos h] | rfl
theorem datAll_app {news : List (Addr × Obj)} {vs : List Value} {v : Value} {ds : List Dat} {d : Dat} (h : DatAll news vs ds) (h1 : DatIn news v d) : DatAll news (vs ++ [v]) (ds ++ [d]) := by
  induction ds generalizing vs with
  | nil => cases h; exact .cons h1 .nil
  | cons y r ih =>
    cases h with
    | cons q1 q2 => exact .cons q1 (ih q2)
theorem ne_eq_false {a b : Str} (h : (a != b) = false) : a = b := by simpa using h
theorem shn1 {l k : Nat} (h : k < l) : l - k - 1 + 1 = l - k := by omega
theorem shn2 {l k : Nat} (h : k + 1 < l) : l - (k + 1) - 1 + 1 = l - k - 1 := by omega
theorem shn3 {l k : Nat} (h : l - (k + 1) = 0) : l - k - 1 = 0 - 1 := by omega
theorem shn4 {l k : Nat} (h : k + 1 < l) : l - (k + 1) - 1 < l := by omega
theorem shn5 {l k : Nat} (h : k + 1 < l) : l - (k + 1) - 1 + 1 < l := by omega
set_option maxHeartbeats 4000000 in
theorem shares_c (w : World) (ns : List Str) (st en : Str) (t : Tok) (hs0 : splitF (pth []) = (pth [], Str.ofString "")) (hs1 : ∀ i (h : i < ns.length), splitF (pth (ns.take (i + 1))) = (pth (ns.take i), ns[i]))
    (hj : ∀ i (h : i + 1 < ns.length), joinF ns[i] (tailJ ns (i + 1)) = tailJ ns i) (htj : ∀ h : 0 < ns.length, ns[ns.length - 1] = tailJ ns (ns.length - 1)) (hne : ∀ i (h : i < ns.length), ns[i] ≠ Str.ofString "")
    (l1 : ∀ i, (pth (ns.take i)).length ≤ 10000) (l2 : ∀ i (h : i < ns.length), ns[i].length ≤ 10000) (l3 : ∀ i, (tailJ ns i).length ≤ 10000) (hlen : ns.length ≤ 10000) (ok1 : ∀ i, PyData.strOk (pth (ns.take i)) = true) (ok2 : ∀ i, PyData.strOk (tailJ ns i) = true) (HE : ExtOf (pth ns) st en) :
    Make1 w 20 229 [.str (pth ns) t] noPre (fun tl v => DatIn tl v (shDat (shFull ns st en))) := by
  unfold Make1
  intro p loose mean mg mb dp un gd cn cs a ccd cl outer A₀ base h₀ L m news s Q E B F X N T hk hdp hun hpre hret
  (refine wpAny_call ?_; k_dflt (refine' code_def ?k1 ?k2 ?k3 ?k4 ?k5 ?kA ?kF ?kK ?k6 ?k7 ?k8 ?k9 ?kB ?_ ?c2 ?c3 ?c4 ?c5; (case kA => exact rfl); (case kF => exact rfl); (case kK => assumption); (case k1 => k_asm); (case k2 => k_asm); (case k3 => k_asm); (case k4 => k_asm); (case k5 => k_asm); (case k6 => k_is); (case k7 => k_is); (case k8 => ktr_room); (case k9 => exact BindsTo.of_eq rfl); (case c5 => decide); (case kB => exact locs rfl); (case c2 => exact rfl); (case c3 => exact rfl); (case c4 => exact rfl); k_whole))
  intro g' L' h' FG' F' N' B' X' T'
  have hsl : ∀ i, (splitF (pth (ns.take i))).2.length ≤ 10000 ∧ (splitF (pth (ns.take i))).1.length ≤ 10000 := by
    intro i
    by_cases hi : i = 0
    · subst hi; rw [List.take_zero, hs0]; exact ⟨by decide, l1 0⟩
    · obtain ⟨j, rfl⟩ : ∃ j, i = j + 1 := ⟨i - 1, by omega⟩
      by_cases hjl : j < ns.length
      · rw [hs1 j hjl]; exact ⟨l2 j hjl, l1 j⟩
      · by_cases h0 : ns.length = 0
        · rw [List.eq_nil_of_length_eq_zero h0, List.take_nil, hs0]; exact ⟨by decide, by rw [← List.take_zero (l := ns)]; exact l1 0⟩
        · have : ns.take (j + 1) = ns.take (ns.length - 1 + 1) := by rw [List.take_of_length_le (by omega), List.take_of_length_le (by omega)]
          rw [this, hs1 _ (by omega)]; exact ⟨l2 _ (by omega), l1 _⟩
  have hpl : (pth ns).length ≤ 10000 := by have := l1 ns.length; rwa [List.take_length] at this
  k_steps
  rename News _ _ _ _ => NA
  refine make_use (by k_asm) (by k_asm) (by k_asm) NA (by k_asm) rfl (split_c _ _ _ (Nat.le_trans hpl (by decide))) (by ktr_room) (by ktr_units) True.intro ?_
  intro v tl h9 tk9 hR F9 N9 l9
  cases hR with
  | @tuple a0 vs0 n0 ds0 hm0 hall0 =>
  cases hall0 with
  | cons q1 r1 =>
  cases q1 with
  | str _ u1 =>
  cases r1 with
  | cons q2 r2 =>
  cases q2 with
  | str _ u2 =>
  cases r2 with
  | nil =>
  have N10 := news_sub (b := (a0, _) :: (_, _) :: news) N9 (fun q hq => (List.mem_cons.mp hq).elim (fun e => e ▸ List.mem_append_left _ hm0) (fun h => List.mem_append_right _ h))
  clear N9
  repeat ((fail_if_success (with_reducible show wpAny _ _ (execs (Stmt.While _ _ _ _ :: _) _) _ _ _)); walk1)
  rename Fr _ _ _ _ => F2
  rename News _ _ _ _ => N2
  rename (∀ p ∈ news, p.1 < _) => hla
  refine wpAny_execs_cons ?_
  have sp0 : (splitF (pth ns)) = splitF (pth (ns.take (ns.length - 0))) := by rw [Nat.sub_zero, List.take_length]
  obtain ⟨la, hla0, hla⟩ : ∃ la, la = (_ : Addr) ∧ (∀ p ∈ news, p.1 < la) := ⟨_, rfl, hla⟩
  refine While_inv2 (fun n m nx => ∃ (k : Nat) (vs : List Value) (c : Nat) (ts : List (Addr × Obj)), n + k = ns.length ∧ m "shares" = some (.ref la) ∧ (la, listOf vs.toArray c) ∈ nx ∧ (∀ q ∈ ts, q ∈ nx ∧ q.1 ≠ la ∧ ∀ p ∈ news, p.1 < q.1) ∧ (∀ q ∈ news, q ∈ nx) ∧ DatAll ts vs ((shI ns k).map fun p => .tuple [.str p.1, .str p.2]) ∧
    (∃ t, m "head" = some (.str (splitF (pth (ns.take (ns.length - k)))).1 t)) ∧ (∃ t, m "tail" = some (.str (splitF (pth (ns.take (ns.length - k)))).2 t)) ∧ (∃ t, m "rest" = some (.str (tailJ ns (ns.length - k - 1)) t)) ∧ (∃ t, m "place" = some (.str (pth ns) t))) (n₀ := ns.length) F2 N2
    ⟨0, [], 0, [], rfl, by rw [hla0]; rfl, by rw [hla0]; exact mem2, (fun _ h => nomatch h), fun q hq => .tail _ (.tail _ hq), .nil, ⟨u1, by rw [← sp0]; rfl⟩, ⟨u2, by rw [← sp0]; rfl⟩, ⟨u2, ?_⟩, ⟨_, rfl⟩⟩ ?_
  · have : (splitF (pth ns)).2 = tailJ ns (ns.length - 0 - 1) := by
      by_cases h0 : ns.length = 0
      · rw [List.eq_nil_of_length_eq_zero h0, hs0]; rfl
      · have h1 := hs1 (ns.length - 1) (by omega)
        rw [show ns.length - 1 + 1 = ns.length by omega, List.take_length] at h1
        rw [h1, htj (by omega)]; rfl
    rw [← this]; rfl
  rintro n m₁ nx h₁ tk₁ F₁ N₁ ⟨k, vs, c, ts, hnk, e1, hml, hts, e3, hall, ⟨t4, e4⟩, ⟨t5, e5⟩, ⟨t6, e6⟩, ⟨t7, e7⟩⟩
  rw [frame5 e1 e4 e5 e6 e7] at F₁
  (try dsimp only at F₁)
  have N₃ := news_sub (b := (la, _) :: nx) N₁ (fun q hq => (List.mem_cons.mp hq).elim (fun e => e ▸ hml) id)
  clear N₁
  have hsk := hsl (ns.length - k)
  have hl3 := l3 (ns.length - k - 1)
  have hvl : vs.length ≤ 10000 := by
    have := hall.length
    rw [List.length_map] at this
    rw [this]; unfold shI; rw [List.length_map, List.length_range]; omega
  by_cases hkn : k < ns.length
  · have hspk : splitF (pth (ns.take (ns.length - k))) = (pth (ns.take (ns.length - k - 1)), ns[ns.length - k - 1]) := by
      have := hs1 (ns.length - k - 1) (by omega)
      rwa [shn1 hkn] at this
    rw [hspk] at F₁ hsk
    dsimp only at F₁ hsk
    have hnk1 := hne (ns.length - k - 1) (by omega)
    repeat (any_goals (first
        | (exfalso; rename ((_ != _) = false) => h9; exact hnk1 (ne_eq_false h9))
        | ((fail_if_success (with_reducible show wpAny _ _ (call (Value.builtin "list.append") _ _) _ _ _)); walk1)))
    rename News _ _ _ _ => NZ
    rename (_ < _ ∧ AllLt _ _) => hD
    obtain ⟨aD, haD, hD2⟩ : ∃ aD, aD = (_ : Addr) ∧ la < aD ∧ AllLt aD nx := ⟨_, rfl, hD⟩
    subst haD
    have NB := news_bring NZ mem2
    refine append_K (by k_asm) NB (Upd.head filt_ne) ?_ (by rw [sizeLine_eq, List.size_toArray]; omega)
    intro h11 F11 N11
    rw [List.push_toArray] at N11
    k_steps
    refine make_use (by k_asm) F11 (by k_asm) N11 (by k_asm) rfl (split_c _ _ _ (Nat.le_trans (l1 _) (by decide))) (by ktr_room) (by ktr_units) True.intro ?_
    intro v tl2 h12 tk12 hR2 F12 N12 l12
    rw [Nat.sub_sub ns.length k 1] at hR2
    cases hR2 with
    | @tuple a1 vs1 n1 ds1 hm1 hall1 =>
    cases hall1 with
    | cons q1 r1 =>
    cases q1 with
    | str _ u3 =>
    cases r1 with
    | cons q2 r2 =>
    cases q2 with
    | str _ u4 =>
    cases r2 with
    | nil =>
    have hsk2 := hsl (ns.length - (k + 1))
    have hD3 := allLt_lt hD2.2
    have hmf : ∀ q ∈ nx, q.1 ≠ la → q ∈ (la, listOf (vs ++ [Value.ref aD]).toArray (c + 1)) :: List.filter (fun p => decide (p.1 ≠ la)) ((aD, ({ cls := .type "tuple", data := .seq #[Value.str (pth (List.take (ns.length - k - 1) ns)) t4, Value.str (tailJ ns (ns.length - k - 1)) t6] } : Obj)) :: (la, listOf vs.toArray c) :: nx) := fun q hq h => .tail _ (mem_filt (.tail _ (.tail _ hq)) h)
    have hmD : (aD, ({ cls := .type "tuple", data := .seq #[Value.str (pth (List.take (ns.length - k - 1) ns)) t4, Value.str (tailJ ns (ns.length - k - 1)) t6] } : Obj)) ∈ (la, listOf (vs ++ [Value.ref aD]).toArray (c + 1)) :: List.filter (fun p => decide (p.1 ≠ la)) ((aD, ({ cls := .type "tuple", data := .seq #[Value.str (pth (List.take (ns.length - k - 1) ns)) t4, Value.str (tailJ ns (ns.length - k - 1)) t6] } : Obj)) :: (la, listOf vs.toArray c) :: nx) := .tail _ (mem_filt mem1 (Nat.ne_of_gt hD2.1))
    have hml2 : (la, listOf (vs ++ [Value.ref aD]).toArray (c + 1)) ∈ (la, listOf (vs ++ [Value.ref aD]).toArray (c + 1)) :: List.filter (fun p => decide (p.1 ≠ la)) ((aD, ({ cls := .type "tuple", data := .seq #[Value.str (pth (List.take (ns.length - k - 1) ns)) t4, Value.str (tailJ ns (ns.length - k - 1)) t6] } : Obj)) :: (la, listOf vs.toArray c) :: nx) := mem1
    generalize (la, listOf (vs ++ [Value.ref aD]).toArray (c + 1)) :: List.filter (fun p => decide (p.1 ≠ la)) ((aD, ({ cls := .type "tuple", data := .seq #[Value.str (pth (List.take (ns.length - k - 1) ns)) t4, Value.str (tailJ ns (ns.length - k - 1)) t6] } : Obj)) :: (la, listOf vs.toArray c) :: nx) = ny at *
    have N13 := news_sub (b := (a1, _) :: ny) N12 (fun q hq => (List.mem_cons.mp hq).elim (fun e => e ▸ List.mem_append_left _ hm1) (fun h => List.mem_append_right _ h))
    clear N12 N11 F11 NZ NB
    have hjk : joinF (splitF (pth (ns.take (ns.length - (k + 1))))).2 (tailJ ns (ns.length - k - 1)) = tailJ ns (ns.length - (k + 1) - 1) := by
      by_cases hk1 : k + 1 < ns.length
      · have hk1 : k + 1 < ns.length := by omega
        have h1 := hs1 (ns.length - (k + 1) - 1) (shn4 hk1)
        rw [shn1 hk1] at h1
        rw [h1]
        have h2 := hj (ns.length - (k + 1) - 1) (shn5 hk1)
        have h4 : tailJ ns (ns.length - (k + 1) - 1 + 1) = tailJ ns (ns.length - k - 1) := congrArg _ (shn2 hk1)
        rw [h4] at h2
        exact h2
      · have h0 : ns.length - (k + 1) = 0 := by omega
        rw [h0, List.take_zero, hs0, joinF_empty _ _ (by decide), shn3 h0]
    k_steps
    rename News _ _ _ _ => NY
    refine pure_use (by k_asm) (by k_asm) (by k_asm) NY (by k_asm) rfl (join_c _ _ _ _ _ (Nat.le_trans hsk2.1 (by decide)) (Nat.le_trans hl3 (by decide))) (by ktr_room) (by ktr_units) True.intro ?_
    intro t13 h13 tk13 F13 N14
    rw [hjk] at *
    k_steps
    rename Fr _ _ _ _ => FZ
    rename News _ _ _ _ => NZ
    refine ⟨_, _, _, _, n - 1, rfl, FZ, NZ, by omega, k + 1, vs ++ [.ref aD], c + 1, (aD, ({ cls := .type "tuple", data := .seq #[Value.str (pth (List.take (ns.length - k - 1) ns)) t4, Value.str (tailJ ns (ns.length - k - 1)) t6] } : Obj)) :: ts, by omega, rfl, .tail _ hml2, ?_, ?_, ?_, ⟨_, rfl⟩, ⟨_, rfl⟩, ⟨_, rfl⟩, ⟨_, rfl⟩⟩
    · intro q hq
      rcases List.mem_cons.mp hq with rfl | hq
      · exact ⟨.tail _ hmD, Nat.ne_of_gt hD2.1, fun p hp => hD3 _ (e3 p hp)⟩
      · obtain ⟨g1, g2, g3⟩ := hts q hq
        exact ⟨.tail _ (hmf q g1 g2), g2, g3⟩
    · exact fun q hq => .tail _ (hmf q (e3 q hq) (Nat.ne_of_lt (hla q hq)))
    · rw [shI_succ, List.map_append]
      refine datAll_app (DatAll.mono (fun q hq => .tail _ hq) hall) ?_
      have := tup2 (news := (aD, ({ cls := .type "tuple", data := .seq #[Value.str (pth (List.take (ns.length - k - 1) ns)) t4, Value.str (tailJ ns (ns.length - k - 1)) t6] } : Obj)) :: ts) (List.Mem.head _)
      rw [Nat.sub_right_comm ns.length 1 k]
      exact this
  · have hk2 : k = ns.length := by omega
    subst hk2
    have h00 : ns.length - ns.length = 0 := by omega
    rw [h00, List.take_zero, hs0] at F₁
    dsimp only at F₁
    repeat (any_goals (first
        | (exfalso; rename ((_ != _) = true) => h9; revert h9; decide +kernel)
        | ((fail_if_success (with_reducible show wpAny _ _ (compareOp CmpOp.NotEq (Value.ref _) (Value.ref _)) _ _ _)); walk1)))
    rename News _ _ _ _ => NZ
    refine kqd_ne NZ (List.mem_cons_of_mem _ (List.mem_cons_self)) rfl rfl hall (fun q hq => .tail _ (.tail _ (hts q hq).1)) (List.mem_cons_self) rfl rfl (.nil (news := [])) (fun _ h => nomatch h) ?_ (fun _ h => nomatch h) (by ktr_units) ?_
    · intro d hd
      obtain ⟨p, hp, rfl⟩ := List.mem_map.mp hd
      unfold shI at hp
      obtain ⟨j, _, rfl⟩ := List.mem_map.mp hp
      simp [kqdOk, ok1, ok2]
    have hts2 : ∀ q ∈ ts, q ∈ nx.filter (fun p => decide (p.1 ≠ la)) := fun q hq => mem_filt (hts q hq).1 (hts q hq).2.1
    by_cases h0 : ns = []
    · subst h0
      simp only [shI, List.length_nil, List.range_zero, List.map_nil, decide_true, Bool.not_true]
      k_steps
      rename News _ _ _ _ => NQ
      refine hret _ ((la, listOf vs.toArray c) :: ts) _ _ (.list (.head _) (DatAll.mono (fun q hq => .tail _ hq) hall)) (by k_asm) (news_sub NQ (fun q hq => ?_)) (fun q hq p hp => ?_)
      · rcases List.mem_append.mp hq with hq | hq
        · rcases List.mem_cons.mp hq with rfl | hq
          · exact mem2
          · exact .tail _ (.tail _ (hts q hq).1)
        · exact .tail _ (.tail _ (e3 q hq))
      · rcases List.mem_cons.mp hp with rfl | hp
        · exact hla q hq
        · exact (hts p hp).2.2 q hq
    · have hsh : (List.map (fun p : Str × Str => Dat.tuple [Dat.str p.fst, Dat.str p.snd]) (shI ns ns.length)) ≠ [] := fun e => h0 (by
        have := congrArg List.length e
        simp only [shI, List.length_map, List.length_range, List.length_nil] at this
        exact List.eq_nil_of_length_eq_zero this)
      rw [decide_eq_false hsh]
      dsimp only [Bool.not_false]
      k_steps
      refine make_use (by k_asm) (by k_asm) (by k_asm) NZ (by k_asm) rfl (splitext_c _ _ _ _ _ (Nat.le_trans hpl (by decide)) HE) (by ktr_room) (by ktr_units) True.intro ?_
      intro v tl2 h12 tk12 hR2 F12 N12 l12
      cases hR2 with
      | @tuple a1 vs1 n1 ds1 hm1 hall1 =>
      cases hall1 with
      | cons q1 r1 =>
      cases q1 with
      | str _ u3 =>
      cases r1 with
      | cons q2 r2 =>
      cases q2 with
      | str _ u4 =>
      cases r2 with
      | nil =>
      have N13 := news_sub (b := (a1, _) :: (la, listOf vs.toArray c) :: nx) N12 (fun q hq => (List.mem_cons.mp hq).elim (fun e => e ▸ List.mem_append_left _ hm1) (fun h => List.mem_append_right _ (.tail _ h)))
      clear N12 NZ
      repeat (any_goals ((fail_if_success (with_reducible show wpAny _ _ (call (Value.builtin "list.append") _ ) _ _ _)); walk1))
      rename News _ _ _ _ => NY
      rename (a1 < _ ∧ la < _ ∧ AllLt _ _) => hD
      obtain ⟨aD, haD, hD2⟩ : ∃ aD, aD = (_ : Addr) ∧ a1 < aD ∧ la < aD ∧ AllLt aD nx := ⟨_, rfl, hD⟩
      subst haD
      have NB := news_bring NY mem3
      refine append_K (by k_asm) NB (Upd.head filt_ne) ?_ (by rw [sizeLine_eq, List.size_toArray]; omega)
      intro h14 F14 N14
      rw [List.push_toArray] at N14
      have hfl : shFull ns st en = shI ns ns.length ++ [(en, st)] := by unfold shFull; rw [if_neg h0]
      have hD3 := allLt_lt hD2.2.2
      k_steps
      rename News _ _ _ _ => NQ
      refine hret _ ((la, listOf (vs ++ [Value.ref aD]).toArray (c + 1)) :: (aD, ({ cls := .type "tuple", data := .seq #[Value.str en u4, Value.str st u3] } : Obj)) :: ts) _ _ (.list (.head _) ?_) (by k_asm) (news_sub NQ (fun q hq => ?_)) (fun q hq p hp => ?_)
      · show DatAll _ _ _
        rw [hfl, List.map_append]
        refine datAll_app (DatAll.mono (fun q hq => .tail _ (.tail _ hq)) hall) ?_
        exact tup2 (.tail _ (.head _))
      · rcases List.mem_append.mp hq with hq | hq
        · rcases List.mem_cons.mp hq with rfl | hq
          · exact .head _
          · rcases List.mem_cons.mp hq with rfl | hq
            · exact .tail _ (mem_filt mem1 (Nat.ne_of_gt hD2.2.1))
            · exact .tail _ (mem_filt (memN3 (hts q hq).1) (hts q hq).2.1)
        · exact .tail _ (mem_filt (memN3 (e3 q hq)) (Nat.ne_of_lt (hla q hq)))
      · rcases List.mem_cons.mp hp with rfl | hp
        · exact hla q hq
        · rcases List.mem_cons.mp hp with rfl | hp
          · exact hD3 _ (e3 q hq)
          · exact (hts p hp).2.2 q hq
end Mine
end
section
open PySem PySem.W PyProof.Rows PySem.Calls PySem.Spec
set_option Elab.async false
namespace Mine

set_option maxRecDepth 100000

theorem datAll_app' {news : List (Addr × Obj)} {vs : List Value} {v : Value} {ds : List Dat} {d : Dat} (h : DatAll news vs ds) (h1 : DatIn news v d) : DatAll news (vs ++ [v]) (ds ++ [d]) := by
  induction ds generalizing vs with
  | nil => cases h; exact .cons h1 .nil
  | cons y r ih =>
    cases h with
    | cons q1 q2 => exact .cons q1 (ih q2)
theorem strs_snoc' {vs : List Value} {v : Value} {ss : List Str} (h : StrsAre (vs ++ [v]) ss) : ∃ ss' x, ss = ss' ++ [x] ∧ StrsAre vs ss' ∧ ∃ t, v = .str x t := by
  induction vs generalizing ss with
  | nil => cases h with | cons y t h => cases h; exact ⟨[], y, rfl, .nil, t, rfl⟩
  | cons a r ih =>
    cases h with
    | cons y t h =>
      obtain ⟨ss', x, rfl, h1, h2⟩ := ih h
      exact ⟨y :: ss', x, rfl, .cons _ _ h1, h2⟩
theorem wp_tok {prog : Program} {w : World} {α : Type} {A : Around} {t : Sem α} {Q : α → Shared → Prop} {E : Value → Shared → Prop} {s : Shared} (h : ∀ n, wpAny (model prog w) A t Q E { heap := s.heap, gens := s.gens, drawn := s.drawn, toks := n, os := s.os }) : wpAny (model prog w) A t Q E s := h s.toks
theorem hj_fit {l i : Nat} (h : i < l) : (l : Int) - 1 + (i : Int) * (-1) = ((l - 1 - i : Nat) : Int) := by omega
theorem neg_one_fit (l : Nat) : ((-1 : Int) + ((l + 1 : Nat) : Int)).toNat = l := by omega
set_option maxHeartbeats 4000000 in
theorem due_shares_c (w : World) (nl : Addr) (ns : List Str) (hw : wt ns ≤ 9000) (hN : Nms ns) :
    Make1 w 20 250 [.ref nl] (fun news => DatIn news (.ref nl) (.list (ns.map .str))) (fun tl v => DatIn tl v (shDat (shFull ns (dueSt ns) (dueEn ns)))) := by
  unfold Make1
  intro p loose mean mg mb dp un gd cn cs a ccd cl outer A₀ base h₀ L m news s Q E B F X N T hk hdp hun hpre hret
  (refine wpAny_call ?_; k_dflt (refine' code_def ?k1 ?k2 ?k3 ?k4 ?k5 ?kA ?kF ?kK ?k6 ?k7 ?k8 ?k9 ?kB ?_ ?c2 ?c3 ?c4 ?c5; (case kA => exact rfl); (case kF => exact rfl); (case kK => assumption); (case k1 => k_asm); (case k2 => k_asm); (case k3 => k_asm); (case k4 => k_asm); (case k5 => k_asm); (case k6 => k_is); (case k7 => k_is); (case k8 => ktr_room); (case k9 => exact BindsTo.of_eq rfl); (case c5 => decide); (case kB => exact locs rfl); (case c2 => exact rfl); (case c3 => exact rfl); (case c4 => exact rfl); k_whole))
  intro g' L' h' FG' F' N' B' X' T'
  obtain ⟨m0, hm0, F0⟩ : ∃ m0, m0 "names" = some (.ref nl) ∧ Fr g' L' h' m0 := ⟨_, rfl, F'⟩
  clear F'
  rw [frame1 hm0] at F0
  refine wp_tok ?_
  intro tz
  dsimp only
  cases hpre with
  | @list _ nvs nnn nds hnl hnall =>
  have hnm := datAll_strs hnall
  have hnlen : nvs.length = ns.length := hnm.length
  have hlen : ns.length ≤ 9000 := Nat.le_trans (wt_len ns) hw
  have hnm' : True ∧ StrsAre nvs ns := ⟨trivial, hnm⟩
  have N0 := news_sub (b := (nl, _) :: news) N' (fun q hq => (List.mem_cons.mp hq).elim (fun e => e ▸ hnl) id)
  clear N'
  repeat ((fail_if_success (with_reducible show wpAny _ _ (execs (Stmt.For _ _ _ _ _ :: _) _) _ _ _)); walk1)
  rename Fr _ _ _ _ => F2
  rename News _ _ _ _ => N2
  rename (nl < _ ∧ AllLt _ _) => hla
  obtain ⟨la, hla0, hla, hla2⟩ : ∃ la, la = (_ : Addr) ∧ nl < la ∧ AllLt la news := ⟨_, rfl, hla⟩
  subst hla0
  replace hla2 := allLt_lt hla2
  refine wpAny_execs_cons ?_
  refine For_invVF F2 (by rfl) (by rfl) ?_ (by intro _; rfl) (by passes_own)
  repeat ((fail_if_success (with_reducible show wpAny _ _ (call (Value.builtin "len") _) _ _ _)); walk1)
  rename News _ _ _ _ => NL
  refine call_len_list (NL.isList mem2) (by rw [List.size_toArray]; omega) ?_
  rw [List.size_toArray, hnlen]
  repeat ((fail_if_success (with_reducible show wpAny _ _ (pyIter _) _ _ _)); walk1)
  rename IsRange _ _ _ _ _ _ _ _ => hR
  rename Fr _ _ _ _ => F3
  rename News _ _ _ _ => N3
  have hn : Builtin.Range.rangeSize ((ns.length : Int) - 1) (-1) (-1) = (ns.length : Int) := by
    rw [rangeSize_downNat]; omega
  refine mrange_iterV (fun i m nx => ∃ vs c ts, m "shares" = some (.ref la) ∧ m "names" = some (.ref nl) ∧ (la, listOf vs.toArray c) ∈ nx ∧ (∀ q ∈ ts, q ∈ nx ∧ NotIt q.2 ∧ q.1 ≠ la ∧ ∀ p ∈ news, p.1 < q.1) ∧ (∀ q ∈ news, q ∈ nx) ∧ DatAll ts vs ((shI ns i).map fun p => .tuple [.str p.1, .str p.2])) rfl hR (small_down (by omega) (by omega) (by decide) (by decide)) hn F3 N3 ?_ ?_ ?_ ?_
  · rintro i m nx nx' ⟨vs, c, ts, e1, e2, e3, e4, e5, e6⟩ hs'
    exact ⟨vs, c, ts, e1, e2, hs' _ e3 (.inl fun _ _ _ e => nomatch e), fun q hq => ⟨hs' _ (e4 q hq).1 (.inl (e4 q hq).2.1), (e4 q hq).2⟩, fun q hq => hs' _ (e5 q hq) (.inr (.tail _ (.tail _ hq))), e6⟩
  · exact ⟨[], 0, [], rfl, rfl, mem1, (fun _ h => nomatch h), fun q hq => .tail _ (.tail _ hq), .nil⟩
  · intro i t m₁ nx s₁ it hi hIt ⟨vs, c, ts, e1, e2, e3, e4, e5, e6⟩ F₁ N₁
    rw [frame2 e1 e2] at F₁
    dsimp only at F₁
    have hj : (ns.length : Int) - 1 + (i : Int) * (-1) = ((ns.length - 1 - i : Nat) : Int) := hj_fit hi
    rw [hj] at F₁
    have N₃ := news_sub (b := (la, _) :: (nl, _) :: it :: nx) N₁ (fun q hq => by
      rcases List.mem_cons.mp hq with rfl | hq
      · exact .tail _ e3
      · rcases List.mem_cons.mp hq with rfl | hq
        · exact .tail _ (e5 _ hnl)
        · exact hq)
    clear N₁
    generalize hjj : ns.length - 1 - i = j at *
    have H45 : True ∧ _ ∧ _ := ⟨trivial, e4, e5⟩
    clear e4 e5
    repeat ((fail_if_success (with_reducible show wpAny _ _ (call (Value.builtin "str.join") _) _ _ _)); walk1)
    rename News _ _ _ _ => NZ
    refine join_listW (ys := ns.take j) (NZ.isList mem1) (by rw [slicePick_upto']; simpa using hnm'.2.take' _) (by decide) (by rw [wt_eq]; have := wt_take ns j; omega) ?_
    intro t13 k13
    dsimp only
    have hp13 : (Str.ofString "/" ++ Txt.join (Str.ofString "/") (ns.take j)) = pth (ns.take j) := rfl
    have hl13 : (Txt.join (Str.ofString "/") (ns.take j)).length ≤ 9000 := Nat.le_trans (join_len _) (Nat.le_trans (wt_take ns j) hw)
    repeat ((fail_if_success (with_reducible show wpAny _ _ (call (Value.builtin "str.join") _) _ _ _)); walk1)
    rename News _ _ _ _ => NZ
    refine join_listW (ys := ns.drop j) (NZ.isList mem1) (by rw [slicePick_from']; simpa using hnm'.2.drop' _) (by decide) (by rw [wt_eq]; have := wt_drop ns j; omega) ?_
    intro t14 k14
    dsimp only
    have hp14 : (Txt.join (Str.ofString "/") (ns.drop j)) = tailJ ns j := rfl
    rw [hp13, hp14]
    repeat ((fail_if_success (with_reducible show wpAny _ _ (call (Value.builtin "list.append") _) _ _ _)); walk1)
    rename News _ _ _ _ => NY
    rename (_ < _ ∧ _ < _ ∧ la < _ ∧ nl < _ ∧ it.1 < _ ∧ AllLt _ nx) => hD
    obtain ⟨aD, haD, hD3, hD4, hD5, hD6⟩ : ∃ aD, aD = (_ : Addr) ∧ (la < aD ∧ nl < aD ∧ it.1 < aD ∧ AllLt aD nx) := ⟨_, rfl, hD.2.2⟩
    subst haD
    obtain ⟨u5, NY⟩ : ∃ u5 : Tok, News g' L' _ ((aD, ({ cls := .type "tuple", data := .seq #[Value.str (pth (ns.take j)) u5, Value.str (tailJ ns j) t14] } : Obj)) :: _) := ⟨_, NY⟩
    have hvl : vs.length = i := by
      have := e6.length
      rw [List.length_map] at this
      rw [this]; unfold shI; rw [List.length_map, List.length_range]
    obtain ⟨_, e4, e5⟩ := H45
    have hitla : it.1 ≠ la := news_ne NY (a := it.1) (o := it.2) mem6 mem4 (by obtain ⟨_, _, _, e, _⟩ := hIt; rw [e]; intro e; cases e)
    have NB := news_bring NY mem4
    refine append_K (by k_asm) NB (Upd.head filt_ne) ?_ (by rw [sizeLine_eq, List.size_toArray]; omega)
    intro h11 F11 N11
    rw [List.push_toArray] at N11
    k_steps
    have hD7 := allLt_lt hD6
    refine ⟨.inl rfl, h11, _, _, _, rfl, F11, N11, .tail _ (mem_filt mem6 hitla), vs ++ [.ref aD], c + 1, (aD, ({ cls := .type "tuple", data := .seq #[Value.str (pth (ns.take j)) u5, Value.str (tailJ ns j) t14] } : Obj)) :: ts, rfl, rfl, .head _, ?_, ?_, ?_⟩
    · intro q hq
      rcases List.mem_cons.mp hq with rfl | hq
      · exact ⟨.tail _ (mem_filt mem1 (Nat.ne_of_gt hD3)), (fun _ _ _ e => nomatch e), Nat.ne_of_gt hD3, fun p hp => hD7 _ (e5 p hp)⟩
      · obtain ⟨g1, g2, g3, g4⟩ := e4 q hq
        exact ⟨.tail _ (mem_filt (.tail _ (memN5 g1)) g3), g2, g3, g4⟩
    · exact fun q hq => .tail _ (mem_filt (.tail _ (memN5 (e5 q hq))) (Nat.ne_of_lt (hla2 q hq)))
    · rw [shI_succ, List.map_append, hjj, List.map_cons, List.map_nil]
      dsimp only
      exact datAll_app' (DatAll.mono (fun q hq => .tail _ hq) e6) (tup2 (.head _))
  · rintro m₁ nx h3 tk3 ⟨vs, c, ts, e1, e2, e3, e4, e5, e6⟩ F3 N3
    rw [frame2 e1 e2] at F3
    have N₃ := news_sub (b := (la, _) :: (nl, _) :: nx) N3 (fun q hq => by
        rcases List.mem_cons.mp hq with rfl | hq
        · exact e3
        · rcases List.mem_cons.mp hq with rfl | hq
          · exact e5 _ hnl
          · exact hq)
    clear N3
    repeat (any_goals ((fail_if_success (with_reducible show wpAny _ _ (compareOp CmpOp.NotEq (Value.ref _) (Value.ref _)) _ _ _)); walk1))
    rename News _ _ _ _ => NZ
    refine kqd_ne NZ (List.mem_cons_of_mem _ (List.mem_cons_of_mem _ List.mem_cons_self)) rfl rfl hnall (fun q hq => .tail _ (.tail _ (.tail _ (e5 q hq)))) (List.mem_cons_self) rfl rfl (.nil (news := [])) (fun _ h => nomatch h) ?_ (fun _ h => nomatch h) (by ktr_units) ?_
    · intro d hd
      obtain ⟨n, hn, rfl⟩ := List.mem_map.mp hd
      have hs := ok_mkS (hN n hn).asc
      rw [mkS_cps] at hs
      simp [kqdOk, hs]
    have H46 : True ∧ _ ∧ _ ∧ _ := ⟨trivial, e4, e5, e6⟩
    clear e4 e5 e6
    by_cases h0 : ns = []
    · subst h0
      simp only [List.map_nil, decide_true, Bool.not_true]
      k_steps
      rename News _ _ _ _ => NQ
      rename Fr _ _ _ _ => FQ
      obtain ⟨_, e4, e5, e6⟩ := H46
      refine hret _ ((la, listOf vs.toArray c) :: ts) _ _ (.list (.head _) (DatAll.mono (fun q hq => .tail _ hq) e6)) FQ (news_sub NQ (fun q hq => ?_)) (fun q hq p hp => ?_)
      · rcases List.mem_append.mp hq with hq | hq
        · rcases List.mem_cons.mp hq with rfl | hq
          · exact mem2
          · exact memN3 (e4 q hq).1
        · exact memN3 (e5 q hq)
      · rcases List.mem_cons.mp hp with rfl | hp
        · exact hla2 q hq
        · exact (e4 p hp).2.2.2 q hq
    · have hsh : ns.map Dat.str ≠ [] := fun e => h0 (List.map_eq_nil_iff.mp e)
      rw [decide_eq_false hsh]
      dsimp only [Bool.not_false]
      repeat ((fail_if_success (with_reducible show wpAny _ _ (call (Value.builtin "str.join") _) _ _ _)); walk1)
      rename News _ _ _ _ => NY
      refine join_listW (ys := ns) (NY.isList mem3) (by simpa using hnm'.2) (by decide) (by rw [wt_eq]; omega) ?_
      intro t13 k13
      dsimp only
      have hp13 : (Str.ofString "/" ++ Txt.join (Str.ofString "/") ns) = pth ns := rfl
      have hl13 : (Txt.join (Str.ofString "/") ns).length ≤ 9000 := Nat.le_trans (join_len _) hw
      repeat ((fail_if_success (with_reducible show wpAny _ _ (subscriptTail _ _ _ _) _ _ _)); walk1)
      rename News _ _ _ _ => NY
      rcases List.eq_nil_or_concat nvs with e11 | ⟨nvs', lst, e11⟩
      · exfalso
        rw [e11] at hnlen
        exact h0 (List.eq_nil_of_length_eq_zero hnlen.symm)
      rw [List.concat_eq_append] at e11
      subst e11
      obtain ⟨ns', ls, hns, hs1, tl1, rfl⟩ := strs_snoc' hnm'.2
      have hlsl : ls.length ≤ 9000 := by
        have := wt_mem (ns := ns) (n := ls) (by rw [hns]; simp)
        omega
      refine tail_any (T := "list") (NY.isList mem3).typeIs PySem.slot_list_getitem.lookup (wpAny_getItem_list_neg (NY.isList mem3) (by decide) (by simp; omega) (by decide) (x := .str ls tl1) (by rw [List.size_toArray, List.length_append, List.length_singleton, neg_one_fit nvs'.length]; simp) ?_) (by with_unfolding_all rfl)
      repeat ((fail_if_success (with_reducible show wpAny _ _ (truthy (Value.bool _)) _ _ _)); walk1)
      rename List (Str × Tok) => l
      rename (List.map _ _ = Txt.split _ _) => hsp
      rename StrsAre _ _ => hss
      have hdw : dueWords ns = l.map (·.1) := by unfold dueWords; rw [hns, List.getLastD_concat]; exact hsp.symm
      have hvl2 : vs.length = ns.length := by
        have := H46.2.2.2.length
        rw [List.length_map] at this
        rw [this]; unfold shI; rw [List.length_map, List.length_range]
      have hfl : shFull ns (dueSt ns) (dueEn ns) = shI ns ns.length ++ [(dueEn ns, dueSt ns)] := by unfold shFull; rw [if_neg h0]
      by_cases hl1 : (1 : Int) < (l.length : Int)
      · rw [decide_eq_true hl1]
        repeat ((fail_if_success (with_reducible show wpAny _ _ (subscriptTail _ _ _ _) _ _ _)); walk1)
        rename News _ _ _ _ => NW
        have hss' : True ∧ StrsAre (strValues l) (l.map (·.1)) := ⟨trivial, hss⟩
        have hvl : (strValues l).length = l.length := by rw [hss.length, List.length_map]
        rcases List.eq_nil_or_concat (strValues l) with e12 | ⟨lv', lst2, e12⟩
        · exfalso; rw [e12] at hvl; simp at hvl; omega
        rw [List.concat_eq_append] at e12
        have hss2 := hss'.2
        rw [e12] at hss2
        obtain ⟨sw', lw, hlw, hs2, tl2, rfl⟩ := strs_snoc' hss2
        have hlwl : lw.length ≤ 9000 := by
          have h1 := (by assumption : ∀ a ∈ List.map (fun x => x.fst) l, a.length ≤ _) lw (by rw [hlw]; simp)
          omega
        have hen : Str.ofString "." ++ lw = dueEn ns := by
          unfold dueEn; rw [hdw, if_pos (by rw [List.length_map]; omega), hlw, List.getLastD_concat]
        refine tail_any (T := "list") (NW.isList mem1).typeIs PySem.slot_list_getitem.lookup (wpAny_getItem_list_neg (NW.isList mem1) (by decide) (by rw [List.size_toArray, hvl]; omega) (by decide) (x := .str lw tl2) (by rw [List.size_toArray, e12, List.length_append, List.length_singleton, neg_one_fit lv'.length]; simp) ?_) (by with_unfolding_all rfl)
        repeat ((fail_if_success (with_reducible show wpAny _ _ (call (Value.builtin "list.append") _) _ _ _)); walk1)
        have hst : Txt.slice (Str.ofString "/" ++ Txt.join (Str.ofString "/") ns) none (some ((((Str.ofString "/").length + (Txt.join (Str.ofString "/") ns).length : Nat) : Int) - (((Str.ofString ".").length + lw.length : Nat) : Int))) = dueSt ns := by
          unfold dueSt; rw [← hen]; unfold pth; rw [strLen_append, strLen_append]
        rename News _ _ _ _ => NY
        rename (_ < _ ∧ _ < _ ∧ la < _ ∧ nl < _ ∧ AllLt _ nx) => hD
        obtain ⟨aD, haD, hD3, hD4, hD6⟩ : ∃ aD, aD = (_ : Addr) ∧ (la < aD ∧ nl < aD ∧ AllLt aD nx) := ⟨_, rfl, hD.2.2⟩
        subst haD
        rw [hen, hst] at NY
        obtain ⟨ua, ub, NY⟩ : ∃ ua ub : Tok, News g' L' _ ((aD, ({ cls := .type "tuple", data := .seq #[Value.str (dueEn ns) ua, Value.str (dueSt ns) ub] } : Obj)) :: _) := ⟨_, _, NY⟩
        have NB := news_bring NY mem4
        refine append_K (by k_asm) NB (Upd.head filt_ne) ?_ (by rw [sizeLine_eq, List.size_toArray]; omega)
        intro h11 F11 N11
        rw [List.push_toArray] at N11
        have hD7 := allLt_lt hD6
        k_steps
        rename News _ _ _ _ => NQ
        rename Fr _ _ _ _ => FQ
        obtain ⟨_, e4, e5, e6⟩ := H46
        refine hret _ ((la, listOf (vs ++ [Value.ref aD]).toArray (c + 1)) :: (aD, ({ cls := .type "tuple", data := .seq #[Value.str (dueEn ns) ua, Value.str (dueSt ns) ub] } : Obj)) :: ts) _ _ (.list (.head _) ?_) FQ (news_sub NQ (fun q hq => ?_)) (fun q hq p hp => ?_)
        · show DatAll _ _ _
          rw [hfl, List.map_append, List.map_cons, List.map_nil]
          dsimp only
          exact datAll_app' (DatAll.mono (fun q hq => .tail _ (.tail _ hq)) e6) (tup2 (.tail _ (.head _)))
        · rcases List.mem_append.mp hq with hq | hq
          · rcases List.mem_cons.mp hq with rfl | hq
            · exact .head _
            · rcases List.mem_cons.mp hq with rfl | hq
              · exact .tail _ (mem_filt mem1 (Nat.ne_of_gt hD3))
              · exact .tail _ (mem_filt (memN5 (e4 q hq).1) (e4 q hq).2.2.1)
          · exact .tail _ (mem_filt (memN5 (e5 q hq)) (Nat.ne_of_lt (hla2 q hq)))
        · rcases List.mem_cons.mp hp with rfl | hp
          · exact hla2 q hq
          · rcases List.mem_cons.mp hp with rfl | hp
            · exact hD7 _ (e5 q hq)
            · exact (e4 p hp).2.2.2 q hq
      · rw [decide_eq_false hl1]
        have hen : Str.ofString "" = dueEn ns := by
          unfold dueEn; rw [hdw, if_neg (by rw [List.length_map]; omega)]
        repeat ((fail_if_success (with_reducible show wpAny _ _ (call (Value.builtin "list.append") _) _ _ _)); walk1)
        have hst : Txt.slice (Str.ofString "/" ++ Txt.join (Str.ofString "/") ns) none (some ((((Str.ofString "/").length + (Txt.join (Str.ofString "/") ns).length : Nat) : Int) - ((0 : Nat) : Int))) = dueSt ns := by
          unfold dueSt; rw [← hen]; unfold pth; rw [strLen_append]; rfl
        rename News _ _ _ _ => NY
        rename (_ < _ ∧ _ < _ ∧ la < _ ∧ nl < _ ∧ AllLt _ nx) => hD
        obtain ⟨aD, haD, hD3, hD4, hD6⟩ : ∃ aD, aD = (_ : Addr) ∧ (la < aD ∧ nl < aD ∧ AllLt aD nx) := ⟨_, rfl, hD.2.2⟩
        subst haD
        rw [hen, hst] at NY
        obtain ⟨ua, ub, NY⟩ : ∃ ua ub : Tok, News g' L' _ ((aD, ({ cls := .type "tuple", data := .seq #[Value.str (dueEn ns) ua, Value.str (dueSt ns) ub] } : Obj)) :: _) := ⟨_, _, NY⟩
        have NB := news_bring NY mem4
        refine append_K (by k_asm) NB (Upd.head filt_ne) ?_ (by rw [sizeLine_eq, List.size_toArray]; omega)
        intro h11 F11 N11
        rw [List.push_toArray] at N11
        have hD7 := allLt_lt hD6
        k_steps
        rename News _ _ _ _ => NQ
        rename Fr _ _ _ _ => FQ
        obtain ⟨_, e4, e5, e6⟩ := H46
        refine hret _ ((la, listOf (vs ++ [Value.ref aD]).toArray (c + 1)) :: (aD, ({ cls := .type "tuple", data := .seq #[Value.str (dueEn ns) ua, Value.str (dueSt ns) ub] } : Obj)) :: ts) _ _ (.list (.head _) ?_) FQ (news_sub NQ (fun q hq => ?_)) (fun q hq p hp => ?_)
        · show DatAll _ _ _
          rw [hfl, List.map_append, List.map_cons, List.map_nil]
          dsimp only
          exact datAll_app' (DatAll.mono (fun q hq => .tail _ (.tail _ hq)) e6) (tup2 (.tail _ (.head _)))
        · rcases List.mem_append.mp hq with hq | hq
          · rcases List.mem_cons.mp hq with rfl | hq
            · exact .head _
            · rcases List.mem_cons.mp hq with rfl | hq
              · exact .tail _ (mem_filt mem1 (Nat.ne_of_gt hD3))
              · exact .tail _ (mem_filt (memN5 (e4 q hq).1) (e4 q hq).2.2.1)
          · exact .tail _ (mem_filt (memN5 (e5 q hq)) (Nat.ne_of_lt (hla2 q hq)))
        · rcases List.mem_cons.mp hp with rfl | hp
          · exact hla2 q hq
          · rcases List.mem_cons.mp hp with rfl | hp
            · exact hD7 _ (e5 q hq)
            · exact (e4 p hp).2.2.2 q hq
end Mine
end
end
section
open PySem PySem.W PyProof.Rows PySem.Calls PySem.Spec
set_option Elab.async false
set_option maxRecDepth 100000
namespace Mine
theorem norm_law (w : World) {ds : List Str} {c : Nat} (t : Tok) (hd : Nms ds) (hw : wt ds ≤ 9000) (hc : c < 46656) :
    Grow1 w 4 215 [.str (joinF (pth ds) (textOf c (Str.ofString "./"))) t] noPre (fun _ v => ∃ t, v = .str (pth (nextW ds c)) t) := by
  have H := nrm_of hd hc hw
  have hn := nextW_wt (ds := ds) hc
  have := norm_c w _ t (Nat.le_trans H.len (by decide)) H.g1 H.g2 H.hw (by rw [H.sp, wt_eq]; omega) (by rw [H.sp]; exact Nat.le_trans (join_len _) (by omega)) H.hdd
  rw [H.sp] at this
  exact this
theorem shares_law (w : World) {ns : List Str} (t : Tok) (h : Nms ns) (hw : wt ns ≤ 9000) : Make1 w 20 229 [.str (pth ns) t] noPre (fun tl v => DatIn tl v (shDat (shOf ns))) :=
  shares_c w ns (dueSt ns) (dueEn ns) t split_pth0 (fun i hi => split_pth_at h i hi) (fun i hi => join_tail h i hi) (fun hi => tail_last hi) (fun i hi => (h _ (List.getElem_mem hi)).ne) (fun i => Nat.le_trans (len_pth ns i) (by omega)) (fun i hi => by have := wt_mem (List.getElem_mem hi); omega) (fun i => Nat.le_trans (len_tail ns i) (by omega)) (Nat.le_trans (wt_len ns) (by omega)) (ok_pth h) (ok_tail h) (ext_due h)
section
variable {w : World} {k : Nat} {f : Addr} {vs : List Value} {pre : List (Addr × Obj) → Prop} {p : Program} {loose : List Str} {mean : ExcName → Option Value} {mg mb : Str → Option Value} {dp un : Nat} {gd : Option (List Code)} {cn : Str} {cs : Scope} {a : Addr} {ccd : Value} {cl : List (Str × Addr)} {outer : List Env} {A₀ : Around} {base h₀ : Heap} {L : Addr} {m : Str → Option Value} {news : List (Addr × Obj)} {s : Shared} {Q E : Value → Shared → Prop}
theorem grow_use {R : List (Addr × Obj) → Value → Prop} (B : Below A₀ base outer h₀) (F : Fr h₀ L s.heap m) (X : (Mine.hd.heap_1 w.params).In h₀) (N : News h₀ L s.heap news) (T : Top p loose mean mg mb h₀) (hk : cs.kind = .function) (C : Grow1 w k f vs pre R)
    (hd : dp + k < recursionLimit) (hu : un + 8 * k < cLine) (hp : pre news)
    (ret : ∀ (v : Value) (nx : List (Addr × Obj)) (h' : Heap) (tk' : Nat), R nx v → (∀ q ∈ news, q ∈ nx) → Fr h₀ L h' m → News h₀ L h' nx → Q v { s with heap := h', toks := tk' }) :
    wpAny (model PySem.Challenge.rw_in0194_01.row.prog w) (ktrTop dp un gd cn cs L a ccd cl outer) (call (.ref f) vs) Q E s :=
  C p loose mean mg mb dp un gd cn cs a ccd cl outer A₀ base h₀ L m news s Q E B F X N T hk hd hu hp ret
theorem grow2_use {R : List (Addr × Obj) → List (Addr × Obj) → Value → Prop} (B : Below A₀ base outer h₀) (F : Fr h₀ L s.heap m) (X : (Mine.hd.heap_1 w.params).In h₀) (N : News h₀ L s.heap news) (T : Top p loose mean mg mb h₀) (hk : cs.kind = .function) (C : Grow2 w k f vs pre R)
    (hd : dp + k < recursionLimit) (hu : un + 8 * k < cLine) (hp : pre news)
    (ret : ∀ (v : Value) (nx : List (Addr × Obj)) (h' : Heap) (tk' : Nat), R news nx v → (∀ q ∈ news, q ∈ nx) → Fr h₀ L h' m → News h₀ L h' nx → Q v { s with heap := h', toks := tk' }) :
    wpAny (model PySem.Challenge.rw_in0194_01.row.prog w) (ktrTop dp un gd cn cs L a ccd cl outer) (call (.ref f) vs) Q E s :=
  C p loose mean mg mb dp un gd cn cs a ccd cl outer A₀ base h₀ L m news s Q E B F X N T hk hd hu hp ret
end
end Mine
end
section
open PySem PySem.W PyProof.Rows PySem.Calls PySem.Spec
set_option Elab.async false
set_option maxRecDepth 100000
namespace Mine
section
variable {prog : Program} {w : World} {A : Around} {s : Shared} {h₀ : Heap} {L : Addr} {m : Str → Option Value} {env : Env}
/-- a comprehension's turns by an invariant over what stands in the new list and the ledger -/
theorem comp_ind {elt : Expr} {x : Str} {scope : Scope} {cl : List (Str × Addr)} {S : List (Addr × Obj) → Prop} {P : Nat → Value → Prop} {Fin : List Value → List (Addr × Obj) → Prop} {n : Nat} {news : List (Addr × Obj)}
    (INV : Nat → List Value → List (Addr × Obj) → Prop) (h0 : INV 0 [] news)
    (turn : ∀ i ys nz v I oI C oC D m₂ h tk (E' : Value → Shared → Prop), i < n → INV i ys nz → P i v → LCg.NsObj oC m₂ → m₂ x = some v → Fr h₀ L h m → News h₀ L h ((I, oI) :: (C, oC) :: (D, LCg.lst ys) :: nz) → LCg.Off3 I C D nz → ((@Ne Nat I C) ∧ (@Ne Nat I D) ∧ (@Ne Nat C D)) →
      wpAny (model prog w) A (eval elt (compEnvC scope cl C env)) (LCg.CompEnd h₀ L m { s with heap := h, toks := tk } I oI C oC D (LCg.lst ys) S (fun y nz' => INV (i + 1) (ys ++ [y]) nz')) E' { s with heap := h, toks := tk })
    (fin : ∀ ys nz, INV n ys nz → Fin ys nz) : LCg.CompRest prog w A h₀ L m env elt x scope cl s S P Fin n 0 [] news := by
  have gen : ∀ k i ys nz, i + k = n → INV i ys nz → LCg.CompRest prog w A h₀ L m env elt x scope cl s S P Fin k i ys nz := by
    intro k
    induction k with
    | zero =>
      intro i ys nz hi hv
      have : i = n := by omega
      subst this
      exact LCg.CompRest.zero (fin ys nz hv)
    | succ k ih =>
      intro i ys nz hi hv
      refine LCg.CompRest.succ fun v I oI C oC D m₂ h tk E' h1 h2 h3 h4 h5 h6 h7 => ?_
      refine wpAny_mono (turn i ys nz v I oI C oC D m₂ h tk E' (by omega) hv h1 h2 h3 h4 h5 h6 h7) (fun y s₂ hc => ?_) fun _ _ e => e
      obtain ⟨h', tk', nz', e1, e2, e3, e4, e5, e6⟩ := hc
      exact ⟨h', tk', nz', e1, e2, e3, e4, e5, ih (i + 1) _ nz' (by omega) e6⟩
  exact gen n 0 [] news (by omega) h0
end
end Mine
end
section
open PySem PySem.W PyProof.Rows PySem.Calls PySem.Spec PySem.Builtin PySem.Builtin.Str
set_option Elab.async false
namespace Mine
theorem slice_mem (x : Str) (l u : Option Int) : ∀ c ∈ (Txt.slice x l u).cps.toList, c ∈ x.cps.toList := by
  intro c hc
  unfold Txt.slice at hc
  split at hc
  · exact hc
  · simp only [List.mem_filterMap] at hc
    obtain ⟨i, _, hi⟩ := hc
    exact Array.mem_toList_iff.mpr (Array.mem_of_getElem? hi)
abbrev Asc (x : Str) : Prop := ∀ c ∈ x.cps.toList, c < 128
theorem Asc.ok {x : Str} (h : Asc x) : PyData.strOk x = true := by
  have := ok_mkS h
  rwa [mkS_cps] at this
theorem asc_mkS {l : List Nat} (h : ∀ c ∈ l, c < 128) : Asc (mkS l) := by
  intro c hc; rw [mkS_toList] at hc; exact h c hc
/-- a key: plain signs, and never two slashes -/
abbrev KOk (k : Str) : Prop := Asc k ∧ k ≠ Str.ofString "//"
theorem ss_eq : Str.ofString "//" = mkS [47, 47] := by decide +kernel
theorem pth_kok {ns : List Str} (h : Nms ns) : KOk (pth ns) := by
  rw [pth_eq]
  refine ⟨asc_mkS fun c hc => ?_, fun e => ?_⟩
  · rcases List.mem_cons.mp hc with rfl | hc
    · decide
    · exact jl_asc h c hc
  · rw [ss_eq] at e
    have e := mkS_inj e
    by_cases h0 : ns = []
    · subst h0; simp [jl] at e
    · obtain ⟨d, P, e2, hd⟩ := jl_starts h h0
      rw [e2] at e
      simp at e
      exact hd e.1
theorem dueWords_asc {ns : List Str} (h : Nms ns) : ∀ x ∈ dueWords ns, Asc x := by
  have hl : Asc (ns.getLastD (Str.ofString "")) := by
    by_cases h0 : ns = []
    · subst h0; rw [List.getLastD_nil, nil_eq]; exact asc_mkS fun _ h => nomatch h
    · have eg : ns.getLastD (Str.ofString "") = ns.getLast h0 := by rw [List.getLastD_eq_getLast?, List.getLast?_eq_some_getLast h0]; rfl
      rw [eg]; exact (h _ (List.getLast_mem h0)).asc
  intro x hx c hc
  unfold dueWords at hx
  obtain ⟨k, r, e, h1, h2, h3⟩ := dots_off (ns.getLastD (Str.ofString "")).cps.toList
  rw [← mkS_cps (ns.getLastD (Str.ofString "")), lstrip_dots e h2, dot_eq] at hx
  have := jl_mem (c := 46) hx hc
  rw [mkS_inj (jl_split (mkS r) 46)] at this
  exact hl c (by rw [e]; exact List.mem_append_right _ this)
theorem dueEn_kok {ns : List Str} (h : Nms ns) : KOk (dueEn ns) := by
  unfold dueEn
  split
  · rename_i hw
    have hl : Asc ((dueWords ns).getLastD (Str.ofString "")) := by
      have h0 : dueWords ns ≠ [] := fun e => by rw [e] at hw; simp at hw
      have eg : (dueWords ns).getLastD (Str.ofString "") = (dueWords ns).getLast h0 := by rw [List.getLastD_eq_getLast?, List.getLast?_eq_some_getLast h0]; rfl
      rw [eg]; exact dueWords_asc h _ (List.getLast_mem h0)
    generalize (dueWords ns).getLastD (Str.ofString "") = z at hl
    rw [← mkS_cps z, dot_eq, mkS_app]
    refine ⟨asc_mkS fun c hc => ?_, fun e => ?_⟩
    · rcases List.mem_cons.mp hc with rfl | hc
      · decide
      · exact hl c hc
    · rw [ss_eq] at e
      have e := mkS_inj e
      simp at e
  · rw [nil_eq]
    exact ⟨asc_mkS (fun _ h => nomatch h), fun e => by rw [ss_eq] at e; have := mkS_inj e; simp at this⟩
theorem sh_ok {ns : List Str} (h : Nms ns) : ∀ p ∈ shOf ns, KOk p.1 ∧ Asc p.2 := by
  intro p hp
  unfold shOf shFull at hp
  split at hp
  · exact absurd hp (by simp)
  · rcases List.mem_append.mp hp with hp | hp
    · unfold shI at hp
      obtain ⟨j, _, rfl⟩ := List.mem_map.mp hp
      refine ⟨pth_kok fun n hn => h n (List.mem_of_mem_take hn), ?_⟩
      dsimp only
      rw [tailJ_eq]
      exact asc_mkS (jl_asc fun n hn => h n (List.mem_of_mem_drop hn))
    · rw [List.mem_singleton.mp hp]
      refine ⟨dueEn_kok h, fun c hc => ?_⟩
      exact (pth_kok h).1 c (slice_mem _ _ _ c hc)
section
variable {α : Type}
theorem aput_mem {T : List (Str × α)} {k : Str} {v : α} : ∀ p ∈ aput T k v, p ∈ T ∨ p = (k, v) := by
  intro p hp
  unfold aput at hp
  split at hp
  · obtain ⟨q, hq, e⟩ := List.mem_map.mp hp
    split at e
    · rename_i hk; right; rw [← e, hk]
    · left; rw [← e]; exact hq
  · rcases List.mem_append.mp hp with hp | hp
    · exact .inl hp
    · exact .inr (List.mem_singleton.mp hp)
theorem aget_mem {T : List (Str × α)} {k : Str} {v : α} (h : aget T k = some v) : (k, v) ∈ T := by
  unfold aget at h
  obtain ⟨p, hp, e⟩ := Option.map_eq_some_iff.mp h
  have h2 : p.1 = k := by have := List.find?_some hp; simpa using this
  have := List.mem_of_find?_eq_some hp
  rw [← h2, ← e]; exact this
theorem aget_none {T : List (Str × α)} {k : Str} (h : ∀ p ∈ T, p.1 ≠ k) : aget T k = none := by
  unfold aget
  rw [Option.map_eq_none_iff, List.find?_eq_none]
  intro p hp
  simpa using h p hp
end
theorem foldT_kok {size : Int} : ∀ {sh : List (Str × Str)} {T : List (Str × Int)}, (∀ p ∈ sh, KOk p.1 ∧ Asc p.2) → (∀ p ∈ T, KOk p.1) → ∀ p ∈ foldT sh size T, KOk p.1
  | [], _, _, hT => hT
  | q :: r, T, hs, hT => by
    refine foldT_kok (sh := r) (T := addT T q.1 size) (fun p hp => hs p (.tail _ hp)) fun p hp => ?_
    rcases aput_mem p hp with h | h
    · exact hT p h
    · rw [h]; exact (hs q (.head _)).1
theorem addM_ok {fz : Bool} {M : List (Str × List Str)} {k e : Str} (hM : ∀ p ∈ M, KOk p.1 ∧ ∀ x ∈ p.2, Asc x) (hk : KOk k) (he : Asc e) : ∀ p ∈ addM fz M k e, KOk p.1 ∧ ∀ x ∈ p.2, Asc x := by
  intro p hp
  unfold addM at hp
  split at hp
  · rename_i l hl
    rcases aput_mem p hp with h | h
    · exact hM p h
    · rw [h]
      refine ⟨hk, fun x hx => ?_⟩
      rcases List.mem_append.mp hx with hx | hx
      · exact (hM _ (aget_mem hl)).2 x hx
      · rw [List.mem_singleton.mp hx]; exact he
  · split at hp
    · exact hM p hp
    · rcases List.mem_append.mp hp with hp | hp
      · exact hM p hp
      · rw [List.mem_singleton.mp hp]
        refine ⟨hk, fun x hx => ?_⟩
        rw [List.mem_singleton.mp hx]; exact he
theorem foldM_ok {fz : Bool} : ∀ {sh : List (Str × Str)} {M : List (Str × List Str)}, (∀ p ∈ sh, KOk p.1 ∧ Asc p.2) → (∀ p ∈ M, KOk p.1 ∧ ∀ x ∈ p.2, Asc x) → ∀ p ∈ foldM fz sh M, KOk p.1 ∧ ∀ x ∈ p.2, Asc x
  | [], _, _, hM => hM
  | q :: r, M, hs, hM => foldM_ok (sh := r) (M := addM fz M q.1 q.2) (fun p hp => hs p (.tail _ hp)) (addM_ok hM (hs q (.head _)).1 (hs q (.head _)).2)
theorem Tof_kok {cs : List Nat} (h : Low cs) (i : Nat) : ∀ p ∈ Tof cs i, KOk p.1 := by
  induction i with
  | zero => simp [Tof]
  | succ i ih =>
    unfold Tof at ih ⊢
    rw [List.range_succ, List.foldl_append]
    exact foldT_kok (sh_ok (waysAt_ok h (i + 1)).1) ih
theorem Mof_ok {cs : List Nat} (h : Low cs) (stop i : Nat) : ∀ p ∈ Mof cs stop i, KOk p.1 ∧ ∀ x ∈ p.2, Asc x := by
  induction i with
  | zero => simp [Mof]
  | succ i ih =>
    rw [Mof_succ]
    exact foldM_ok (sh_ok (waysAt_ok h (i + 1)).1) ih
theorem Tof_ss {cs : List Nat} (h : Low cs) (i : Nat) : aget (Tof cs i) (Str.ofString "//") = none := aget_none fun p hp => (Tof_kok h i p hp).2
theorem Mof_ss {cs : List Nat} (h : Low cs) (stop i : Nat) : aget (Mof cs stop i) (Str.ofString "//") = none := aget_none fun p hp => (Mof_ok h stop i p hp).1.2
/-- the asked lists are plain data -/
theorem asked_ok {cs : List Nat} (h : Low cs) (stop n i : Nat) : ∀ d ∈ (((Tof cs n).take i).map fun p => Dat.list (((aget (Mof cs stop n) p.1).getD []).map .str)), kqdOk 8 d = true := by
  intro d hd
  obtain ⟨p, _, rfl⟩ := List.mem_map.mp hd
  simp only [kqdOk, List.all_map, List.all_eq_true]
  intro x hx
  cases e : aget (Mof cs stop n) p.1 with
  | none => rw [e] at hx; simp at hx
  | some l =>
    rw [e] at hx
    exact ((Mof_ok h stop n _ (aget_mem e)).2 x hx).ok
theorem itemsT_ok {cs : List Nat} (h : Low cs) (n : Nat) : ∀ d ∈ ((Tof cs n).map fun p => Dat.tuple [.str p.1, .int p.2]), kqdOk 8 d = true := by
  intro d hd
  obtain ⟨p, hp, rfl⟩ := List.mem_map.mp hd
  simp [kqdOk, (Tof_kok h n p hp).1.ok]
theorem itemsM_ok {cs : List Nat} (h : Low cs) (stop n : Nat) : ∀ d ∈ ((Mof cs stop n).map fun p => Dat.tuple [.str p.1, .list (p.2.map .str)]), kqdOk 8 d = true := by
  intro d hd
  obtain ⟨p, hp, rfl⟩ := List.mem_map.mp hd
  have := Mof_ok h stop n p hp
  simp only [kqdOk, List.all_cons, List.all_nil, Bool.and_true, Bool.and_eq_true, List.all_map, List.all_eq_true]
  exact ⟨this.1.1.ok, fun x hx => (this.2 x hx).ok⟩
end Mine
end
section
open PySem PySem.W PyProof.Rows PySem.Calls PySem.Spec
set_option Elab.async false
set_option maxRecDepth 100000
namespace Mine
theorem keysS_of : ∀ {kvs : List (Str × Value)} {C : List Value → Prop}, (∀ vs, StrsAre vs (kvs.map (·.1)) → C vs) → KdlKeysS kvs C
  | [], _, h => h [] StrsAre.nil
  | q :: r, C, h => fun t => keysS_of (kvs := r) fun vs hv => h _ (.cons q.1 t hv)
theorem dict_of {w : World} {o : Obj} {kvs : List (Str × Value)} (h : o.IsDictOf (PySem.strKind PySem.Challenge.rw_in0194_01.row.prog w) kvs) : ∃ es n, o.data = .dict es n ∧ DOf w es kvs := by
  obtain ⟨es, ep, _, h1, h2, h3, h4⟩ := h
  exact ⟨es, ep, h1, h2, h3, h4⟩
section
variable {β : Type} {w : World} {V : Value → β → Prop} {news : List (Addr × Obj)}
/-- the pairs of a view, each a tuple, as data -/
theorem tups_dat {f : β → Dat} (hf : ∀ v b, V v b → DatIn news v (f b)) {es : Array DictEntry} {kvs : List (Str × Value)} {T : List (Str × β)} (D : DOf w es kvs) (K : KV V kvs T) (as : List Addr) (hl : as.length = es.size) :
    DatAll (tupsOf as es ++ news) (as.map Value.ref) (T.map fun p => .tuple [.str p.1, f p.2]) := by
  have gen : ∀ (l : List DictEntry) (kvs : List (Str × Value)) (T : List (Str × β)) (as : List Addr), KV V kvs T → l.length = kvs.length → as.length = l.length → (∀ (i : Nat) (e : DictEntry) (k : Str) (v : Value), l[i]? = some e → kvs[i]? = some (k, v) → (SK w).is k e.key = true ∧ e.val = v) →
      DatAll (((as.zip l).map fun p => ((p.1, tup2O p.2.key p.2.val) : Addr × Obj)) ++ news) (as.map Value.ref) (T.map fun p => .tuple [.str p.1, f p.2]) := by
    intro l
    induction l with
    | nil =>
      intro kvs T as K h1 h2 _
      have : as = [] := List.length_eq_zero_iff.mp h2
      subst this
      cases K with
      | nil => exact .nil
      | cons _ _ => cases h1
    | cons e r ih =>
      intro kvs T as K h1 h2 h
      cases K with
      | nil => cases h1
      | @cons k a b kr Tr hv K =>
        cases as with
        | nil => cases h2
        | cons x ar =>
          have ⟨g1, g2⟩ := h 0 e k a rfl rfl
          obtain ⟨t, ht⟩ := Value.isStrOf_shape g1
          have rest := ih kr Tr ar K (by simpa using h1) (by simpa using h2) fun i e k v h3 h4 => h (i + 1) e k v h3 h4
          have rest2 := rest.mono (news' := (((x :: ar).zip (e :: r)).map fun p => ((p.1, tup2O p.2.key p.2.val) : Addr × Obj)) ++ news) fun q hq => .tail _ hq
          refine .cons (.tuple (vs := [e.key, e.val]) (n := 0) (.head _) (.cons ?_ (.cons ?_ .nil))) rest2
          · rw [ht]; exact .str _ _
          · rw [g2]; exact (hf _ _ hv).mono fun q hq => List.mem_append_right _ hq
  exact gen es.toList kvs T as K D.pairs.length (by rw [Array.length_toList]; exact hl) fun i e k v h1 h2 => D.pairs.get? h1 h2
end
theorem iv_dat {news : List (Addr × Obj)} : ∀ v i, IV v i → DatIn news v (.int i) := fun _ _ ⟨t, e⟩ => e ▸ .int _ t
theorem strs_dat {news : List (Addr × Obj)} {vs : List Value} {ss : List Str} (h : StrsAre vs ss) : DatAll news vs (ss.map .str) := by
  induction h with
  | nil => exact .nil
  | cons y t _ ih => exact .cons (.str y t) ih
theorem lv_datIn {news : List (Addr × Obj)} : ∀ v ss, LV news v ss → DatIn news v (.list (ss.map .str)) := fun _ _ ⟨_, _, _, e, hm, hs⟩ => e ▸ .list hm (strs_dat hs)
theorem datAll_cat {news : List (Addr × Obj)} {vs ws : List Value} {ds es : List Dat} (h : DatAll news vs ds) (h2 : DatAll news ws es) : DatAll news (vs ++ ws) (ds ++ es) := by
  have gen : ∀ (vs : List Value) (ds : List Dat), DatAll news vs ds → DatAll news (vs ++ ws) (ds ++ es) := by
    intro vs
    induction vs with
    | nil => intro ds h; cases h; exact h2
    | cons v r ih => intro ds h; cases h with
      | cons a b => exact .cons a (ih _ b)
  exact gen vs ds h
theorem datAll_len {news : List (Addr × Obj)} {vs : List Value} {ds : List Dat} (h : DatAll news vs ds) : vs.length = ds.length := by
  have gen : ∀ (vs : List Value) (ds : List Dat), DatAll news vs ds → vs.length = ds.length := by
    intro vs
    induction vs with
    | nil => intro ds h; cases h; rfl
    | cons v r ih => intro ds h; cases h with
      | cons _ b => simp [ih _ b]
  exact gen vs ds h
theorem strs_at {vs : List Value} {ss : List Str} (h : StrsAre vs ss) : ∀ {i : Nat} {v : Value}, vs[i]? = some v → ∃ k t, ss[i]? = some k ∧ v = .str k t := by
  induction h with
  | nil => intro i v h; simp at h
  | cons y t _ ih =>
    intro i v h
    cases i with
    | zero => simp only [List.getElem?_cons_zero, Option.some.injEq] at h; exact ⟨y, t, rfl, h.symm⟩
    | succ i => exact ih h
end Mine
end
section
open PySem PySem.W PyProof.Rows PySem.Calls PySem.Spec
set_option Elab.async false
set_option maxRecDepth 100000
namespace Mine
set_option maxHeartbeats 4000000 in
/-- x[key] of a frozen book: what stands there, or a new thing of the factory's, and nothing else changes -/
theorem fs_getF (w : World) (x dx : Addr) (fac : Value) (kvs : List (Str × Value)) (key : Str) (tk : Tok)
  (p : Program) (loose : List Str) (mean : ExcName → Option Value) (mg mb : Str → Option Value) (dp un : Nat) (gd : Option (List Code)) (cn : Str) (cs : Scope) (a : Addr) (ccd : Value) (cl : List (Str × Addr)) (outer : List Env) (A₀ : Around) (base h₀ : Heap) (L : Addr) (m : Str → Option Value) (news : List (Addr × Obj)) (s : Shared) (Q E : Value → Shared → Prop)
  (B : Below A₀ base outer h₀) (F : Fr h₀ L s.heap m) (X : (Mine.hd.heap_1 w.params).In h₀) (N : News h₀ L s.heap news) (T : Top p loose mean mg mb h₀) (hk : cs.kind = .function)
  (hd : dp + 2 < recursionLimit) (hu : un + 1 + 8 * 2 < cLine) (S : FS w true x dx fac kvs news) (hfac : fac = .type "int" ∨ fac = .type "list")
  (hit : ∀ v tk', aget kvs key = some v → Q v { s with toks := tk' })
  (newI : fac = .type "int" → aget kvs key = none → ∀ t h' tk', Fr h₀ L h' m → News h₀ L h' news → Q (.int 0 t) { s with heap := h', toks := tk' })
  (newL : fac = .type "list" → aget kvs key = none → ∀ r c h' tk', (∀ q ∈ news, q.1 < r) → Fr h₀ L h' m → News h₀ L h' ((r, emptyL c) :: news) → Q (.ref r) { s with heap := h', toks := tk' }) :
      wpAny (model PySem.Challenge.rw_in0194_01.row.prog w) (ktrTop dp un gd cn cs L a ccd cl outer) (getItem (.ref x) (.str key tk)) Q E s := by
  obtain ⟨hb, es, n, hx, D, hdx⟩ := S
  have X1 := X.keeps F.keep
  have lo : (x == sysModules) = false := by simp only [sysModules]; exact beq_eq_false_iff_ne.mpr (fun e => by subst e; exact absurd hb (by decide))
  obtain ⟨hh, g, d, t, os⟩ := s
  refine fdd_getItem (fi_of X1 (N _ hx).1 rfl lo) rfl D ?_
  show match aget kvs key with
    | some v => _
    | none => _
  cases hv : aget kvs key with
  | some v => exact hit v _ hv
  | none =>
    dsimp only
    simp only [if_true] at hdx
    obtain ⟨tkf, f, nf, h1, h2⟩ := hdx
    refine missing_froz w x dx key tk fac es n p loose mean mg mb dp (un + 1) gd cn cs a ccd cl outer A₀ base h₀ L m news _ _ _ B F X N hx hb tkf f nf h1 h2 hfac T hk (by omega) (by omega) ⟨?_, ?_⟩
    · intro e t' h' tk' F' N'
      exact newI e hv _ h' tk' F' N'
    · intro e r c h' tk' F' N' l'
      exact newL e hv r c h' tk' l' F' N'
end Mine
end
section
open PySem PySem.W PyProof.Rows PySem.Calls PySem.Spec
set_option Elab.async false
set_option maxRecDepth 100000
namespace Mine
section
variable {prog : Program} {w : World} {A : Around} {E : Value → Shared → Prop} {s : Shared} {h₀ : Heap} {L a b : Addr} {news : List (Addr × Obj)} {xs ys : List Value} {ka kb : Nat} {ds : List Dat} {Q : Value → Shared → Prop}
open Classical in
theorem ne_same (N : News h₀ L s.heap news) (ma : (a, listOf xs.toArray ka) ∈ news) (Da : DatAll news xs ds) (mb : (b, listOf ys.toArray kb) ∈ news) (Db : DatAll news ys ds) (hok : ∀ d ∈ ds, kqdOk 8 d = true) (hu : A.units + 64 < cLine) (h : Q (.bool false) s) :
    wpAny (model prog w) A (compareOp .NotEq (.ref a) (.ref b)) Q E s :=
  kqd_ne N ma rfl rfl Da (fun _ h => h) mb rfl rfl Db (fun _ h => h) hok hok hu (by rw [decide_eq_true (rfl : ds = ds)]; exact h)
open Classical in
theorem eq_same (N : News h₀ L s.heap news) (ma : (a, listOf xs.toArray ka) ∈ news) (Da : DatAll news xs ds) (mb : (b, listOf ys.toArray kb) ∈ news) (Db : DatAll news ys ds) (hok : ∀ d ∈ ds, kqdOk 8 d = true) (hu : A.units + 64 < cLine) (h : Q (.bool true) s) :
    wpAny (model prog w) A (compareOp .Eq (.ref a) (.ref b)) Q E s :=
  kqd_eq N ma rfl rfl Da (fun _ h => h) mb rfl rfl Db (fun _ h => h) hok hok hu (by rw [decide_eq_true (rfl : ds = ds)]; exact h)
end
theorem asked_ok2 {cs : List Nat} (h : Low cs) (stop n : Nat) : ∀ d ∈ ((Tof cs n).map fun p => Dat.list (((aget (Mof cs stop n) p.1).getD []).map .str)) ++ [Dat.int 0, Dat.list []], kqdOk 8 d = true := by
  intro d hd
  rcases List.mem_append.mp hd with hd | hd
  · exact asked_ok h stop n (Tof cs n).length d (by rw [List.take_length]; exact hd)
  · rcases List.mem_cons.mp hd with rfl | hd
    · rfl
    · rw [List.mem_singleton.mp hd]; rfl
end Mine
end
section
open PySem PySem.W PyProof.Rows PySem.Calls PySem.Spec
set_option Elab.async false
set_option maxRecDepth 100000
namespace Mine
theorem post_true (scr : List Int) : PySem.Challenge.rw_in0194_01.row.claim.post [ofPy (PyData.list (scr.map PyData.int))] (.bool true) [ofPy (PyData.list (scr.map PyData.int))] = true := by
  wrow_post
theorem none_raised (scr : List Int) : ∀ ct ∈ PySem.Challenge.rw_in0194_01.row.raises, ct.2.holds PySem.Challenge.rw_in0194_01.row.records { args := [ofPy (PyData.list (scr.map PyData.int))] } = false := by
  wrow_none_raised
theorem len_a {a b c n : Nat} (h1 : a = b) (h2 : b ≤ c) (h3 : c ≤ 1200 * n) (h4 : n ≤ 13) : a ≤ 20000 := by omega
theorem len_b {a n : Nat} (h3 : a ≤ 1200 * n) (h4 : n ≤ 13) : a ≤ 20000 := by omega
theorem len_c {n : Nat} (h4 : n ≤ 13) : 1200 * n ≤ 100000 := by omega
theorem len_d {n : Nat} (h4 : n ≤ 13) : n ≤ 40 := by omega
theorem sum_fit {a b c i : Nat} (h1 : a ≤ 1200 * i) (h2 : b ≤ c + 1) (h3 : c ≤ 27 * (i + 1)) (h4 : i ≤ 40) : a + b ≤ 1000000 := by omega
theorem wt_fit {a i : Nat} (h3 : a ≤ 27 * (i + 1)) (h4 : i ≤ 40) : a ≤ 9000 := by omega
theorem ga {a b i : Nat} (h : a ≤ b) (h2 : b ≤ 27 * i) (h3 : i < 13) : a ≤ 9000 := by omega
theorem gb {a b i : Nat} (h : a ≤ b + 1) (h2 : b ≤ 27 * i) (h3 : i < 13) : a ≤ 1048576 := by omega
theorem gc {a b : Nat} (h : a ≤ b + 1) (h2 : b ≤ 9000) : a ≤ 100000 := by omega
theorem gd {a b i : Nat} (h : a ≤ b) (h2 : b ≤ 27 * i) (h3 : i < 13) : a ≤ 200000 := by omega
theorem room2 {a : Nat} (h : a ≤ 20000) : a + 2 ≤ sizeLine := by rw [sizeLine_eq]; omega
end Mine
end
open PySem PySem.W PyProof.Rows PySem.Calls PySem.Spec Mine
set_option Elab.async false
set_option maxRecDepth 100000
set_option maxHeartbeats 8000000 in
theorem Mine.law1 : PySem.Challenge.rw_in0194_01.Holds := Mine.hd ⟨Mine.left1, Mine.left2, (by
  k_go0
  all_goals try k_fold
  k_steps
  rename World => w
  rename Frag.In _ _ => X
  rename Fr _ _ _ _ => F1
  rename News _ _ _ _ => N1
  rename (IntsAre _ (_ ++ _)) => hI
  rename Below _ _ _ _ => B
  rename Top _ _ _ _ _ _ => T
  rename Shared => s1
  rename List Int => scr
  obtain ⟨lc, ws, m0, stt, tst, oM, oD, vM, vD, hM, hD, la0, hm1, hm2, hI, hst, F1, N1⟩ : ∃ (lc : Addr) (ws : List Value) (m0 : Str → Option Value) (stt : Int) (tst : Tok) (oM oD : Obj) (vM vD : Option Value), oM.data = .cell vM ∧ oD.data = .cell vD ∧ s1.heap.objs.size + 1 + 1 < lc ∧ m0 "counts" = some (.ref lc) ∧ m0 "stop" = some (.int stt tst) ∧
    IntsAre ws ((scr.take 8).map (fun k' : Int => k'.fmod 46656) ++ [192, 21, 4198, 411, 34]) ∧ stt = 1 + ((scr.take 8).map (fun k' : Int => k'.fmod 46656) ++ [192, 21, 4198, 411, 34]).sum.fmod ((((scr.take 8).map (fun k' : Int => k'.fmod 46656)).length + (1 + 1 + 1 + 1 + 1) : Nat) : Int) ∧ Fr (ghostOf s1.heap [(68, 64)]) s1.heap.objs.size _ m0 ∧
    News (ghostOf s1.heap [(68, 64)]) s1.heap.objs.size _ ((lc, listOf ws.toArray 0) :: _ :: _ :: _ :: (s1.heap.objs.size + 1 + 1, oD) :: (s1.heap.objs.size + 1, oM) :: (64, tabObj #[]) :: []) := ⟨_, _, _, _, _, _, _, _, _, by assumption, by assumption, by omega, rfl, rfl, hI, rfl, F1, N1⟩
  rw [frame2 hm1 hm2] at F1
  refine new_fdd F1 X N1 (.inl rfl) ?_
  intro x1 d1 h1 F2 N2 la1 la2
  clear F1 N1
  k_steps
  rename Fr _ _ _ _ => F1
  rename News _ _ _ _ => N1
  refine new_fdd F1 X N1 (.inr rfl) ?_
  intro x2 d2 h2 F3 N3 lb1 lb2
  clear F1 N1
  repeat ((fail_if_success (with_reducible show wpAny _ _ (storeName _ (Str.ofString "members") _) _ _ _)); walk1)
  rename Fr _ _ _ _ => F1
  rename News _ _ _ _ => N1
  have o1 : lc < d1 := la1 (lc, _) (.head _)
  have o2 : x1 < d2 := lb1 (x1, _) (.head _)
  have o3 : (64 : Nat) < s1.heap.objs.size := by assumption
  have hL0 : s1.heap.objs.size < s1.heap.objs.size + 1 := Nat.lt_succ_self _
  have hL1 : s1.heap.objs.size + 1 < s1.heap.objs.size + 1 + 1 := Nat.lt_succ_self _
  have NB := news_bring N1 (x := s1.heap.objs.size + 1) (o := oM) (by k_mem)
  refine storeX_C F1 NB rfl (UpdF.head filt_ne) hM ?_
  intro h4 oM2 F4 N4 hM2
  have n1 : x2 ≠ s1.heap.objs.size + 1 := Nat.ne_of_gt (Nat.lt_trans (Nat.lt_trans (Nat.lt_trans (Nat.lt_trans (Nat.lt_trans hL1 la0) o1) la2) o2) lb2)
  have n2 : d2 ≠ s1.heap.objs.size + 1 := Nat.ne_of_gt (Nat.lt_trans (Nat.lt_trans (Nat.lt_trans (Nat.lt_trans hL1 la0) o1) la2) o2)
  have n3 : x1 ≠ s1.heap.objs.size + 1 := Nat.ne_of_gt (Nat.lt_trans (Nat.lt_trans (Nat.lt_trans hL1 la0) o1) la2)
  have n4 : d1 ≠ s1.heap.objs.size + 1 := Nat.ne_of_gt (Nat.lt_trans (Nat.lt_trans hL1 la0) o1)
  have n5 : lc ≠ s1.heap.objs.size + 1 := Nat.ne_of_gt (Nat.lt_trans hL1 la0)
  have n6 : 64 ≠ s1.heap.objs.size + 1 := Nat.ne_of_lt (Nat.lt_succ_of_lt o3)
  have N5 := news_sub (b := (s1.heap.objs.size + 1, oM2) :: (x2, fdd (.type "list") d2 #[] 0) :: (d2, emptyDict) :: (x1, fdd (.type "int") d1 #[] 0) :: (d1, emptyDict) :: (lc, listOf ws.toArray 0) :: (s1.heap.objs.size + 1 + 1, oD) :: (64, tabObj #[]) :: []) N4 (fun q hq => by
    rcases List.mem_cons.mp hq with rfl | hq
    · exact .head _
    · refine .tail _ ?_
      rcases List.mem_cons.mp hq with rfl | hq
      · exact mem_filt (by k_mem) n1
      · rcases List.mem_cons.mp hq with rfl | hq
        · exact mem_filt (by k_mem) n2
        · rcases List.mem_cons.mp hq with rfl | hq
          · exact mem_filt (by k_mem) n3
          · rcases List.mem_cons.mp hq with rfl | hq
            · exact mem_filt (by k_mem) n4
            · rcases List.mem_cons.mp hq with rfl | hq
              · exact mem_filt (by k_mem) n5
              · rcases List.mem_cons.mp hq with rfl | hq
                · exact mem_filt (by k_mem) (Nat.ne_of_gt hL1)
                · rw [List.mem_singleton.mp hq]
                  exact mem_filt (by k_mem) n6)
  clear N4 NB N1 F1
  repeat ((fail_if_success (with_reducible show wpAny _ _ (storeName _ (Str.ofString "due_members") _) _ _ _)); walk1)
  rename Fr _ _ _ _ => F1
  rename News _ _ _ _ => N1
  have NB := news_bring N1 (x := s1.heap.objs.size + 1 + 1) (o := oD) (by k_mem)
  refine storeX_C F1 NB rfl (UpdF.head filt_ne) hD ?_
  intro h5 oD2 F5 N5 hD2
  obtain ⟨y1, y2, p1, p2, m7, F5, N5, hD2, hm1, hm2, hm3, hm4, hp1, hp2, ly1, ly2, oy1, oy2⟩ : ∃ (y1 y2 : Addr) (p1 p2 : Obj) (m7 : Str → Option Value), Fr (ghostOf s1.heap [(68, 64)]) s1.heap.objs.size h5 m7 ∧
    News (ghostOf s1.heap [(68, 64)]) s1.heap.objs.size h5 ((s1.heap.objs.size + 1 + 1, oD2) :: List.filter (fun p => decide (p.1 ≠ s1.heap.objs.size + 1 + 1)) (_ :: (y2, p2) :: (y1, p1) :: (s1.heap.objs.size + 1, oM2) :: (x2, fdd (.type "list") d2 #[] 0) :: (d2, emptyDict) :: (x1, fdd (.type "int") d1 #[] 0) :: (d1, emptyDict) :: (lc, listOf ws.toArray 0) :: _ :: (64, tabObj #[]) :: [])) ∧
    oD2.data = .cell (some (.ref y2)) ∧ m7 "counts" = some (.ref lc) ∧ m7 "stop" = some (.int stt tst) ∧ m7 "totals" = some (.ref x1) ∧ m7 "due_totals" = some (.ref y1) ∧
    p1.IsDictOf (PySem.strKind PySem.Challenge.rw_in0194_01.row.prog w) [] ∧ p2.IsDictOf (PySem.strKind PySem.Challenge.rw_in0194_01.row.prog w) [] ∧ (y1 == sysModules) = false ∧ (y2 == sysModules) = false ∧ @LT.lt Nat _ x2 y1 ∧ @LT.lt Nat _ y1 y2 := by
    refine ⟨_, _, _, _, _, F5, N5, hD2, rfl, rfl, rfl, rfl, ?_, ?_, ?_, ?_, ?_, ?_⟩
    · assumption
    · assumption
    · assumption
    · assumption
    · omega
    · omega
  have m1 : y1 ≠ s1.heap.objs.size + 1 + 1 := Nat.ne_of_gt (Nat.lt_trans (Nat.lt_trans (Nat.lt_trans (Nat.lt_trans (Nat.lt_trans la0 o1) la2) o2) lb2) oy1)
  have m2 : y2 ≠ s1.heap.objs.size + 1 + 1 := Nat.ne_of_gt (Nat.lt_trans (Nat.lt_trans (Nat.lt_trans (Nat.lt_trans (Nat.lt_trans (Nat.lt_trans la0 o1) la2) o2) lb2) oy1) oy2)
  have m3 : x2 ≠ s1.heap.objs.size + 1 + 1 := Nat.ne_of_gt (Nat.lt_trans (Nat.lt_trans (Nat.lt_trans (Nat.lt_trans la0 o1) la2) o2) lb2)
  have m4 : d2 ≠ s1.heap.objs.size + 1 + 1 := Nat.ne_of_gt (Nat.lt_trans (Nat.lt_trans (Nat.lt_trans la0 o1) la2) o2)
  have m5 : x1 ≠ s1.heap.objs.size + 1 + 1 := Nat.ne_of_gt (Nat.lt_trans (Nat.lt_trans la0 o1) la2)
  have m6 : d1 ≠ s1.heap.objs.size + 1 + 1 := Nat.ne_of_gt (Nat.lt_trans la0 o1)
  have m8 : 64 ≠ s1.heap.objs.size + 1 + 1 := Nat.ne_of_lt (Nat.lt_succ_of_lt (Nat.lt_succ_of_lt o3))
  have N6 := news_sub (b := (s1.heap.objs.size + 1 + 1, oD2) :: (y2, p2) :: (y1, p1) :: (s1.heap.objs.size + 1, oM2) :: (x2, fdd (.type "list") d2 #[] 0) :: (d2, emptyDict) :: (x1, fdd (.type "int") d1 #[] 0) :: (d1, emptyDict) :: (lc, listOf ws.toArray 0) :: (64, tabObj #[]) :: []) N5 (fun q hq => by
    rcases List.mem_cons.mp hq with rfl | hq
    · exact .head _
    · refine .tail _ ?_
      rcases List.mem_cons.mp hq with rfl | hq
      · exact mem_filt (by k_mem) m2
      · rcases List.mem_cons.mp hq with rfl | hq
        · exact mem_filt (by k_mem) m1
        · rcases List.mem_cons.mp hq with rfl | hq
          · exact mem_filt (by k_mem) (Nat.ne_of_lt hL1)
          · rcases List.mem_cons.mp hq with rfl | hq
            · exact mem_filt (by k_mem) m3
            · rcases List.mem_cons.mp hq with rfl | hq
              · exact mem_filt (by k_mem) m4
              · rcases List.mem_cons.mp hq with rfl | hq
                · exact mem_filt (by k_mem) m5
                · rcases List.mem_cons.mp hq with rfl | hq
                  · exact mem_filt (by k_mem) m6
                  · rcases List.mem_cons.mp hq with rfl | hq
                    · exact mem_filt (by k_mem) (Nat.ne_of_gt la0)
                    · rw [List.mem_singleton.mp hq]
                      exact mem_filt (by k_mem) m8)
  rw [frame2 hm1 hm2] at F5
  clear N5 NB N1 F1
  refine wp_tok ?_
  intro tz
  dsimp only
  repeat ((fail_if_success (with_reducible show wpAny _ _ (execs (Stmt.For _ _ _ _ _ :: _) _) _ _ _)); walk1)
  rename Fr _ _ _ _ => F6
  rename News _ _ _ _ => N7
  have hws : ws.length = (csOf scr).length := by
    rw [hI.length, ← List.length_map (f := fun c : Nat => (c : Int)) (as := csOf scr), csOf_cast]; rfl
  have hcl := csOf_len scr
  obtain ⟨stN, hstN, hst1⟩ := stop_nat scr ((scr.take 8).map (fun k' : Int => k'.fmod 46656)).length
  replace hst : stt = (stN : Int) := hst.trans hstN
  refine wpAny_execs_cons ?_
  refine For_invVF F6 (by rfl) (by rfl) ?_ (by intro _; rfl) (by passes_own)
  repeat ((fail_if_success (with_reducible show wpAny _ _ (call (Value.builtin "len") _) _ _ _)); walk1)
  rename News _ _ _ _ => N8
  refine call_len_list (N8.isList (by k_mem)) (by rw [List.size_toArray, hws]; omega) ?_
  rw [show ws.toArray.size = (csOf scr).length by rw [List.size_toArray, hws]]
  repeat ((fail_if_success (with_reducible show wpAny _ _ (pyIter _) _ _ _)); walk1)
  rename IsRange _ _ _ _ _ _ _ _ => hR
  rename Fr _ _ _ _ => F9
  rename News _ _ _ _ => N9
  subst hst
  have h72 : 72 < s1.heap.objs.size := by
    obtain ⟨_, _, _, _, e, _⟩ := (fd_of (M := MM w) X).obj
    exact Nat.lt_of_lt_of_le (Heap.lt_size e) F9.above
  have b1 : s1.heap.objs.size < x1 := Nat.lt_trans (Nat.lt_trans (Nat.lt_trans (Nat.lt_trans hL0 hL1) la0) o1) la2
  refine mrange_iterV2 (fun i m nx => LJ w (csOf scr) stN ws x1 d1 x2 d2 y1 y2 lc (s1.heap.objs.size + 1) (s1.heap.objs.size + 1 + 1) oM2 oD2 i m nx) rfl hR (small_one (by decide) (by decide) (by omega) (by omega)) (by rw [rangeSize_nat] <;> omega) F9 N9 (fun i m nx nx' J hk => J.sub hM2 hD2 (o64 := tabObj #[]) (by k_mem) hk) ?_ ?_ ?_
  · refine ⟨⟨[], [], [], [], _, ⟨⟨Nat.lt_trans h72 b1, #[], 0, by k_mem, DOf.nil w, ?_⟩, .nil, ⟨Nat.lt_trans h72 (Nat.lt_trans b1 (Nat.lt_trans o2 lb2)), #[], 0, by k_mem, DOf.nil w, ?_⟩, .nil, List.nodup_nil⟩, ⟨⟨p1, by k_mem, hp1⟩, ⟨p2, by k_mem, hp2⟩, ly1, ly2, Nat.ne_of_lt oy2, .nil, .nil⟩, ⟨_, [], 0, rfl, by k_mem, .nil⟩, rfl, fun _ h => nomatch h⟩, by k_mem, by k_mem, by k_mem, .inl (by k_mem), rfl, ⟨_, rfl⟩, hm3, hm4, ⟨tz, ?_⟩⟩
    · rw [show decide (stN < 0) = false from decide_eq_false (Nat.not_lt_zero _)]
      simp only [Bool.false_eq_true, if_false]
      k_mem
    · rw [show decide (stN < 0) = false from decide_eq_false (Nat.not_lt_zero _)]
      simp only [Bool.false_eq_true, if_false]
      k_mem
    · show some (Value.str (Str.ofString "/") tz) = some (Value.str (pth []) tz)
      rw [pth_nil]
  · intro i t m₁ nx s₁ it hi hIt hitlt hJ F₁ N₁
    have it64 : (64 : Addr) < it.1 := hitlt (64, tabObj #[]) (by k_mem)
    have itd1 : d1 < it.1 := hitlt (d1, emptyDict) (by k_mem)
    have itd2 : d2 < it.1 := hitlt (d2, emptyDict) (by k_mem)
    clear F9 N9 hR
    obtain ⟨⟨kv1, kv2, kw1, kw2, wr, S, D, ⟨r0, wvs, wc, hwr, hwm, hws2⟩, hmw, sep⟩, lcm, c1m, c2m, tab, q1, ⟨ts, q2⟩, q3, q4, ⟨tsp, q5⟩⟩ := hJ
    cases hwr
    rw [frame6 q1 q2 q3 q4 q5 hmw, show (0 : Int) + (i : Int) * 1 = (i : Int) by omega] at F₁
    have N₃ := news_sub (b := (lc, listOf ws.toArray 0) :: (s1.heap.objs.size + 1, oM2) :: (s1.heap.objs.size + 1 + 1, oD2) :: it :: nx) N₁ (fun q hq => by
      rcases List.mem_cons.mp hq with rfl | hq
      · exact .tail _ lcm
      · rcases List.mem_cons.mp hq with rfl | hq
        · exact .tail _ c1m
        · rcases List.mem_cons.mp hq with rfl | hq
          · exact .tail _ c2m
          · exact hq)
    refine wpAny_execs_cons ?_
    refine wpAny_mono (Q := IfEnd (ghostOf s1.heap [(68, 64)]) s1.heap.objs.size s₁ (fun (y : Str) => if y = "k" then some (.int (i : Int) t) else if y = "counts" then some (.ref lc) else if y = "stop" then some (.int (stN : Int) ts) else if y = "totals" then some (.ref x1) else if y = "due_totals" then some (.ref y1) else if y = "spot" then some (.str (pth (waysAt (csOf scr) i)) tsp) else if y = "way" then some (.ref wr) else m₁ y)
      (LK w (csOf scr) stN ws x1 d1 x2 d2 y1 y2 lc (s1.heap.objs.size + 1) (s1.heap.objs.size + 1 + 1) oM2 oD2 i wr wvs wc it)) ?_ ?_ (fun _ _ e => e)
    · by_cases hst : i = stN
      · have hdec : decide (stN < i) = false := decide_eq_false (by omega)
        have hdec2 : decide (stN ≤ i) = true := decide_eq_true (by omega)
        rw [hdec] at S
        have S3 := S.sub (nx' := (lc, listOf ws.toArray 0) :: (s1.heap.objs.size + 1, oM2) :: (s1.heap.objs.size + 1 + 1, oD2) :: it :: nx) (fun p hp _ => memN4 hp)
        have hsti : (i : Int) = (stN : Int) := by omega
        repeat (any_goals (first
          | (exfalso; rename (¬ ((_ : Int) = _)) => h9; exact h9 hsti)
          | (exfalso; rename ((_ : Int) ≠ _) => h9; exact h9 hsti)
          | ((fail_if_success (with_reducible show wpAny _ _ (getMethod _ _ _) _ _ _)); walk1)))
        rename News _ _ _ _ => NG
        refine gm_freeze (X.keeps (Fr.keep (by assumption))) NG S3.f1 ?_
        dsimp only
        rename Fr _ _ _ _ => FG
        refine callWith_K0 (X.keeps FG.keep) keep69 ?_
        have tab3 : TabS ((lc, listOf ws.toArray 0) :: (s1.heap.objs.size + 1, oM2) :: (s1.heap.objs.size + 1 + 1, oD2) :: it :: nx) := tab.keep fun q hq _ => memN4 hq
        refine fs_freeze (w := w) false x1 d1 _ kv1 _ _ _ _ _ _ _ _ _ _ _ _ _ _ _ _ _ _ _ _ _ _ _ B FG X NG T rfl (by decide) (by decide) S3.f1 tab3 (.inl rfl) ?_
        intro h8 tk8 nx8 S8 tab8 keep8 F8 N8
        obtain ⟨_, _, dxo1, _, hd1m, hDX1, _, _⟩ := S3.f1.parts
        have D3 := D.sub (nx' := (lc, listOf ws.toArray 0) :: (s1.heap.objs.size + 1, oM2) :: (s1.heap.objs.size + 1 + 1, oD2) :: it :: nx) (fun p hp _ => memN4 hp)
        have hlc64 : lc ≠ 64 := Nat.ne_of_gt (Nat.lt_trans o3 (Nat.lt_trans (Nat.lt_trans hL0 hL1) la0))
        have d12 : d1 < d2 := Nat.lt_trans la2 o2
        have hx2y1 : d2 < y1 := Nat.lt_trans lb2 oy1
        have wrn : ∀ (o : Obj), (∀ xs n, o.data ≠ .seq xs n) → ∀ a, (a, o) ∈ (lc, listOf ws.toArray 0) :: (s1.heap.objs.size + 1, oM2) :: (s1.heap.objs.size + 1 + 1, oD2) :: it :: nx → wr ≠ a := fun o ho a ha => Ne.symm (news_ne NG ha (memN4 hwm) (ho _ _))
        obtain ⟨_, _, dxo2, _, hd2m, hDX2, _, _⟩ := S3.f2.parts
        obtain ⟨_, dxe1, dxn1, hdat1⟩ := dx_dict hDX1
        obtain ⟨_, dxe2, dxn2, hdat2⟩ := dx_dict hDX2
        obtain ⟨txs, ht64⟩ := tab_at tab3
        have wd1 := wrn _ (by rw [hdat1]; exact fun _ _ e => nomatch e) _ hd1m
        have wd2 := wrn _ (by rw [hdat2]; exact fun _ _ e => nomatch e) _ hd2m
        have w64 := wrn (tabObj txs) (fun _ _ e => nomatch e) _ ht64
        have g1 := keep8 _ (.head _) (Nat.ne_of_lt o1) hlc64
        have g2 := keep8 _ mem2 (Ne.symm n4) (Ne.symm n6)
        have g3 := keep8 _ mem3 (Ne.symm m6) (Ne.symm m8)
        have g4 := keep8 _ mem4 (Nat.ne_of_gt itd1) (Nat.ne_of_gt it64)
        have g5 := keep8 _ (memN4 hwm) wd1 w64
        have f8 := S3.f2.keepF NG tab3 hd1m hDX1 (Nat.ne_of_gt d12) keep8
        have v8 := kv_keepF NG S3.v2 tab3 hd1m hDX1 keep8
        have D8 := D3.keepF NG tab3 hd1m hDX1 (Nat.ne_of_gt (Nat.lt_trans d12 hx2y1)) (Nat.ne_of_gt (Nat.lt_trans (Nat.lt_trans d12 hx2y1) oy2)) keep8
        have N8b := news_sub (b := (s1.heap.objs.size + 1, oM2) :: nx8) N8 (fun q hq => (List.mem_cons.mp hq).elim (fun e => e ▸ g2) id)
        clear N8 NG
        repeat ((fail_if_success (with_reducible show wpAny _ _ (getMethod _ _ _) _ _ _)); walk1)
        rename News _ _ _ _ => NH
        refine gm_freeze (X.keeps (Fr.keep (by assumption))) NH (f8.keep fun q hq _ => .tail _ hq) ?_
        dsimp only
        rename Fr _ _ _ _ => FH
        refine callWith_K0 (X.keeps FH.keep) keep69 ?_
        refine fs_freeze (w := w) false x2 d2 _ kv2 _ _ _ _ _ _ _ _ _ _ _ _ _ _ _ _ _ _ _ _ _ _ _ B FH X NH T rfl (by decide) (by decide) (f8.keep fun q hq _ => .tail _ hq) (tab8.keep fun q hq _ => .tail _ hq) (.inr rfl) ?_
        intro h9 tk9 nx9 S9 tab9 keep9 F9 N9
        repeat ((fail_if_success (with_reducible show IfEnd _ _ _ _ _ _ _)); walk1)
        have hd2b := keep8 _ hd2m (Nat.ne_of_gt d12) (Nat.ne_of_gt (Nat.lt_trans (Nat.lt_trans (Nat.lt_trans o3 (Nat.lt_trans (Nat.lt_trans hL0 hL1) la0)) o1) d12))
        have tab8b : TabS ((s1.heap.objs.size + 1, oM2) :: nx8) := tab8.keep fun q hq _ => .tail _ hq
        have f9 := (S8.keep fun q hq _ => List.mem_cons_of_mem (s1.heap.objs.size + 1, oM2) hq).keepF NH tab8b (.tail _ hd2b) hDX2 (Nat.ne_of_lt d12) keep9
        have v9 := kv_keepF NH (kvl_keep (h₀ := ghostOf s1.heap [(68, 64)]) (h := h9) (L := s1.heap.objs.size) v8 fun q hq _ => List.mem_cons_of_mem (s1.heap.objs.size + 1, oM2) hq) tab8b (.tail _ hd2b) hDX2 keep9
        have D9 := (D8.sub (nx' := (s1.heap.objs.size + 1, oM2) :: nx8) fun p hp _ => .tail _ hp).keepF NH tab8b (.tail _ hd2b) hDX2 (Nat.ne_of_gt hx2y1) (Nat.ne_of_gt (Nat.lt_trans hx2y1 oy2)) keep9
        rename Fr _ _ _ _ => FZ
        refine ⟨rfl, h9, _, nx9, rfl, FZ, N9, ⟨⟨kv1, kv2, kw1, kw2, ?_, D9, sep⟩, keep9 _ (.tail _ g5) wd2 w64, keep9 _ (.tail _ g1) (Nat.ne_of_lt (Nat.lt_trans o1 d12)) hlc64, keep9 _ (.head _) (Ne.symm n2) (Ne.symm n6), keep9 _ (.tail _ g3) (Ne.symm m4) (Ne.symm m8), keep9 _ (.tail _ g4) (Nat.ne_of_gt itd2) (Nat.ne_of_gt it64), tab9⟩⟩
        rw [hdec2]
        exact ⟨f9, S3.v1, S9, v9, S3.nd⟩
      · have hdec3 : decide (stN ≤ i) = decide (stN < i) := by
          rcases Nat.lt_or_ge stN i with h | h
          · rw [decide_eq_true h, decide_eq_true (by omega)]
          · rw [decide_eq_false (by omega), decide_eq_false (by omega)]
        have hsti : (i : Int) ≠ (stN : Int) := by omega
        repeat (any_goals (first
          | (exfalso; rename ((_ : Int) = _) => h9; exact hsti h9)
          | ((fail_if_success (with_reducible show IfEnd _ _ _ _ _ _ _)); walk1)))
        rename Fr _ _ _ _ => FZ
        rename News _ _ _ _ => NZ
        refine ⟨rfl, _, _, it :: nx, rfl, FZ, (fun q hq => NZ q (memN3 hq)), ⟨⟨kv1, kv2, kw1, kw2, ?_, D.sub fun p hp _ => .tail _ hp, sep⟩, .tail _ hwm, .tail _ lcm, .tail _ c1m, .tail _ c2m, .head _, tab.keep fun q hq _ => .tail _ hq⟩⟩
        rw [hdec3]; exact S.sub fun p hp _ => .tail _ hp
    · rintro fl s' ⟨rfl, h', tk', nx1, rfl, FA, NA, K⟩
      dsimp only
      clear S D sep hwm lcm c1m c2m tab F₁ N₁ hmw q1 q2 q3 q4 q5
      obtain ⟨⟨kv1, kv2, kw1, kw2, S, D, sep⟩, hwm, lcm, c1m, c2m, itm, tab⟩ := K
      obtain ⟨c, hci⟩ : ∃ c, (csOf scr)[i]? = some c := ⟨_, List.getElem?_eq_getElem hi⟩
      have hclow : c < 46656 := csOf_low scr c (List.mem_of_getElem? hci)
      obtain ⟨tci, hvi⟩ := hI.get i (c : Int) (by
        show (csI scr)[i]? = _
        rw [← csOf_cast, List.getElem?_map, hci]; rfl)
      obtain ⟨hnm, hwt⟩ := waysAt_ok (csOf_low scr) i
      have hi13 : i < 13 := Nat.lt_of_lt_of_le hi hcl.2
      have hnd : Nms (waysAt (csOf scr) i).dropLast := fun n hn => hnm n ((List.dropLast_sublist _).subset hn)
      have hwd : wt (waysAt (csOf scr) i).dropLast ≤ 9000 := by
        have := wt_take (waysAt (csOf scr) i) ((waysAt (csOf scr) i).length - 1)
        rw [← List.dropLast_eq_take] at this; exact ga this hwt hi13
      have hsucc := waysAt_succ hci
      obtain ⟨hnm2, hwt2⟩ := waysAt_ok (csOf_low scr) (i + 1)
      have hpl : (pth (waysAt (csOf scr) i)).length ≤ 1048576 := by
        have := len_pth (waysAt (csOf scr) i) (waysAt (csOf scr) i).length
        rw [List.take_length] at this; exact gb this hwt hi13
      have hpl2 : (pth (waysAt (csOf scr) i).dropLast).length ≤ 100000 := by
        have := len_pth (waysAt (csOf scr) i).dropLast (waysAt (csOf scr) i).dropLast.length
        rw [List.take_length] at this; exact gc this hwd
      obtain ⟨tm, etm, _, ltm⟩ := text_of hclow
      have htl : (textOf c (Str.ofString "./")).length ≤ 100000 := by rw [etm, mkS_len]; exact Nat.le_trans ltm (by decide)
      have NB := news_sub (b := (lc, listOf ws.toArray 0) :: (s1.heap.objs.size + 1, oM2) :: (s1.heap.objs.size + 1 + 1, oD2) :: nx1) NA (fun q hq => by
        rcases List.mem_cons.mp hq with rfl | hq
        · exact lcm
        · rcases List.mem_cons.mp hq with rfl | hq
          · exact c1m
          · rcases List.mem_cons.mp hq with rfl | hq
            · exact c2m
            · exact hq)
      clear NA
      repeat ((fail_if_success (with_reducible show wpAny _ _ (call (Value.ref 208) _) _ _ _)); walk1)
      rename Fr _ _ _ _ => FB
      rename News _ _ _ _ => NC
      refine pure_use B FB X NC T rfl (dirname_c w _ _ hpl) (by decide) (by decide) True.intro ?_
      intro t5 h5 tk5 F5 N5
      rw [dir_pth hnm]
      clear NC FB
      repeat ((fail_if_success (with_reducible show wpAny _ _ (subscriptTail _ _ _ _) _ _ _)); walk1)
      rename News _ _ _ _ => NC
      refine tail_any (T := "list") (NC.isList mem1).typeIs PySem.slot_list_getitem.lookup (wpAny_getItem_list (NC.isList mem1) (by omega) (by omega) (x := .int (c : Int) tci) (by rw [Int.toNat_natCast]; simpa using hvi) ?_) (by with_unfolding_all rfl)
      repeat ((fail_if_success (with_reducible show wpAny _ _ (call (Value.ref 222) _) _ _ _)); walk1)
      rename Fr _ _ _ _ => FB
      rename News _ _ _ _ => NC
      refine make_use B FB X NC T rfl (text_c w c _ hclow) (by decide) (by decide) True.intro ?_
      rintro v tl h6 tk6 ⟨t6, rfl⟩ F6 N6 l6
      replace N6 := news_sub (b := (lc, listOf ws.toArray 0) :: (s1.heap.objs.size + 1, oM2) :: (s1.heap.objs.size + 1 + 1, oD2) :: nx1) N6 (fun q hq => List.mem_append_right _ hq)
      clear NC FB
      repeat ((fail_if_success (with_reducible show wpAny _ _ (call (Value.ref 177) _) _ _ _)); walk1)
      rename Fr _ _ _ _ => FB
      rename News _ _ _ _ => NC
      refine pure_use B FB X NC T rfl (join_c w _ _ _ _ hpl2 htl) (by decide) (by decide) True.intro ?_
      intro t7 h7 tk7 F7 N7
      repeat ((fail_if_success (with_reducible show wpAny _ _ (call (Value.ref 215) _) _ _ _)); walk1)
      rename Fr _ _ _ _ => FB
      rename News _ _ _ _ => NC
      refine grow_use B FB X NC T rfl (norm_law w _ hnd hwd hclow) (by decide) (by decide) True.intro ?_
      rintro v nx8 h8 tk8 ⟨t8, rfl⟩ keep8 F8 N8
      rw [← hsucc]
      have in8 : ∀ q ∈ nx1, q ∈ nx8 := fun q hq => keep8 q (memN3 hq)
      replace N8 := news_sub (b := (lc, listOf ws.toArray 0) :: (s1.heap.objs.size + 1, oM2) :: (s1.heap.objs.size + 1 + 1, oD2) :: nx8) N8 (fun q hq => by
        rcases List.mem_cons.mp hq with rfl | hq
        · exact in8 _ lcm
        · rcases List.mem_cons.mp hq with rfl | hq
          · exact in8 _ c1m
          · rcases List.mem_cons.mp hq with rfl | hq
            · exact in8 _ c2m
            · exact hq)
      clear NC FB
      repeat ((fail_if_success (with_reducible show wpAny _ _ (subscriptTail _ _ _ _) _ _ _)); walk1)
      rename News _ _ _ _ => NC
      refine tail_any (T := "list") (NC.isList mem1).typeIs PySem.slot_list_getitem.lookup (wpAny_getItem_list (NC.isList mem1) (by omega) (by omega) (x := .int (c : Int) tci) (by rw [Int.toNat_natCast]; simpa using hvi) ?_) (by with_unfolding_all rfl)
      repeat ((fail_if_success (with_reducible show wpAny _ _ (call (Value.ref 236) _) _ _ _)); walk1)
      rename Fr _ _ _ _ => FB
      rename News _ _ _ _ => ND
      have S8 := S.sub (nx' := (lc, listOf ws.toArray 0) :: (s1.heap.objs.size + 1, oM2) :: (s1.heap.objs.size + 1 + 1, oD2) :: nx8) (fun p hp _ => memN3 (in8 p hp))
      have D8 := D.sub (nx' := (lc, listOf ws.toArray 0) :: (s1.heap.objs.size + 1, oM2) :: (s1.heap.objs.size + 1 + 1, oD2) :: nx8) (fun p hp _ => memN3 (in8 p hp))
      have hsl := shOf_len (waysAt (csOf scr) (i + 1))
      have hi40 : i ≤ 40 := Nat.le_trans (Nat.le_of_lt hi13) (by decide)
      have hwti := (waysAt_ok (csOf_low scr) (i + 1)).2
      have hTl := Tof_len (csOf_low scr) i hi40
      have hMl := Mof_len (csOf_low scr) stN i hi40
      refine put_core w (decide (stN ≤ i)) x1 d1 x2 d2 kv1 kv2 (Tof (csOf scr) i) (Mof (csOf scr) stN i) (pth (waysAt (csOf scr) (i + 1))) _ _ (sz c) (shOf (waysAt (csOf scr) (i + 1))) (1200 * i) (shares_law w _ hnm2 (wt_fit hwti hi40)) _ _ _ _ _ _ _ _ _ _ _ _ _ _ _ _ _ _ _ _ _ _ _ B FB X ND T rfl (by decide) (by decide) S8 (sum_fit hTl hsl hwti hi40) (sum_fit hMl.1 hsl hwti hi40) hMl.2 (sum_fit (Nat.le_refl _) hsl hwti hi40) ?_
      intro h9 tk9 nx9 kv1' kv2' S9 hv9 keep9 fresh9 F9 N9
      have D9 := DS.afterPut ND S8 D8 (fun r hr => (sep r hr).2.2) keep9
      have ap : ∀ q ∈ (lc, listOf ws.toArray 0) :: (s1.heap.objs.size + 1, oM2) :: (s1.heap.objs.size + 1 + 1, oD2) :: nx8, (∀ es n, q.2.data ≠ .dict es n) → ((∀ xs n, q.2.data ≠ .seq xs n) ∨ Value.ref q.1 ∉ kv2.map (·.2)) → q ∈ nx9 := fun q hq h1 h2 => by
        obtain ⟨a1, a2, a3⟩ := S8.apartQ ND hq (.inl h1) h2
        exact keep9 q hq a1 a2 a3
      have lcm9 : (lc, listOf ws.toArray 0) ∈ nx9 := ap _ (.head _) (fun _ _ e => nomatch e) (.inr fun hr => (sep _ hr).2.1 rfl)
      have c1m9 : (s1.heap.objs.size + 1, oM2) ∈ nx9 := ap _ mem2 (fun _ _ e => by rw [hM2] at e; cases e) (.inl fun _ _ e => by rw [hM2] at e; cases e)
      have c2m9 : (s1.heap.objs.size + 1 + 1, oD2) ∈ nx9 := ap _ mem3 (fun _ _ e => by rw [hD2] at e; cases e) (.inl fun _ _ e => by rw [hD2] at e; cases e)
      have itm9 : it ∈ nx9 := by
        obtain ⟨_, _, _, e, _⟩ := hIt
        exact ap _ (memN3 (in8 _ itm)) (fun _ _ e2 => by rw [e] at e2; cases e2) (.inl fun _ _ e2 => by rw [e] at e2; cases e2)
      have hwm9 : (wr, listOf wvs.toArray wc) ∈ nx9 := ap _ (memN3 (in8 _ hwm)) (fun _ _ e => nomatch e) (.inr fun hr => (sep _ hr).1 rfl)
      have tab8 : TabS ((lc, listOf ws.toArray 0) :: (s1.heap.objs.size + 1, oM2) :: (s1.heap.objs.size + 1 + 1, oD2) :: nx8) := tab.keep fun q hq _ => memN3 (in8 q hq)
      have tab9 : TabS nx9 := tab8.keep fun q hq ⟨vs, e⟩ => ap q hq (fun _ _ e2 => by rw [e] at e2; cases e2) (.inl fun _ _ e2 => by rw [e] at e2; cases e2)
      have lt9 : ∀ q ∈ nx9, q.1 < h9.objs.size := fun q hq => Heap.lt_size (N9 q hq).1
      have N9b := news_sub (b := (wr, listOf wvs.toArray wc) :: (lc, listOf ws.toArray 0) :: (s1.heap.objs.size + 1, oM2) :: (s1.heap.objs.size + 1 + 1, oD2) :: nx9) N9 (fun q hq => by
        rcases List.mem_cons.mp hq with rfl | hq
        · exact hwm9
        · rcases List.mem_cons.mp hq with rfl | hq
          · exact lcm9
          · rcases List.mem_cons.mp hq with rfl | hq
            · exact c1m9
            · rcases List.mem_cons.mp hq with rfl | hq
              · exact c2m9
              · exact hq)
      clear N9 ND
      have hwl : wvs.length ≤ 200000 := by
        rw [hws2.length]
        have := wt_len (waysAt (csOf scr) i); exact gd this hwt hi13
      have hws3 : True ∧ StrsAre wvs (waysAt (csOf scr) i) := ⟨trivial, hws2⟩
      iterate 16 walk1
      repeat ((fail_if_success (with_reducible show wpAny _ _ (subscriptTail _ _ _ _) _ _ _)); walk1)
      rename News _ _ _ _ => NC
      refine tail_any (T := "list") (NC.isList mem3).typeIs PySem.slot_list_getitem.lookup (wpAny_getItem_list (NC.isList mem3) (by omega) (by omega) (x := .int (c : Int) tci) (by rw [Int.toNat_natCast]; simpa using hvi) ?_) (by with_unfolding_all rfl)
      repeat ((fail_if_success (with_reducible show wpAny _ _ (call (Value.ref 222) _) _ _ _)); walk1)
      rename Fr _ _ _ _ => FB
      rename News _ _ _ _ => NC
      refine make_use B FB X NC T rfl (text_c w c _ hclow) (by decide) (by decide) True.intro ?_
      rintro v tl h6 tk6 ⟨t6, rfl⟩ F6 N6 l6
      replace N6 := news_sub (b := _) N6 (fun q hq => List.mem_append_right tl hq)
      repeat ((fail_if_success (with_reducible show wpAny _ _ (call (Value.ref 243) _) _ _ _)); walk1)
      rename Fr _ _ _ _ => FB
      rename News _ _ _ _ => NC
      have hdl : (waysAt (csOf scr) i).dropLast = (waysAt (csOf scr) i).take (wvs.length - 1) := by rw [List.dropLast_eq_take, hws3.2.length]
      have hwsp := words_wt (46 :: tm)
      have hwsl := wt_len (wordsOf (46 :: tm))
      refine grow2_use B FB X NC T rfl (names_c w _ _ _ ((waysAt (csOf scr) i).dropLast) (Nat.le_trans htl (by decide)) (Nat.le_trans (wt_len _) (Nat.le_trans hwd (by decide))) (by rw [etm]; exact Nat.le_trans hwsl (by omega))) (by decide) (by decide) (lv_arr mem1 (pick1 wvs) (hdl ▸ hws3.2.take' _)) ?_
      rintro v nx10 h10 tk10 ⟨hlv10, hfr10⟩ keep10 F10 N10
      obtain ⟨wr2, wv2, wc2, rfl, hwm2, hws4⟩ := hlv10
      have hws5 : StrsAre wv2 (waysAt (csOf scr) (i + 1)) := by rw [hsucc]; exact hws4
      have lt10 : ∀ q ∈ nx9, q.1 < wr2 := fun q hq => by
        rcases hfr10 with e | ⟨r, e, hr⟩
        · injection e with e
          rw [e]; exact Nat.lt_succ_of_lt (lt9 q hq)
        · injection e with e
          rw [e]; exact hr q (memN5 hq)
      have in10 : ∀ q ∈ nx9, q ∈ nx10 := fun q hq => keep10 q (memN5 hq)
      clear keep10 hfr10 hws4
      have N10b := news_sub (b := (lc, listOf ws.toArray 0) :: (s1.heap.objs.size + 1, oM2) :: (s1.heap.objs.size + 1 + 1, oD2) :: nx10) N10 (fun q hq => by
        rcases List.mem_cons.mp hq with rfl | hq
        · exact in10 _ lcm9
        · rcases List.mem_cons.mp hq with rfl | hq
          · exact in10 _ c1m9
          · rcases List.mem_cons.mp hq with rfl | hq
            · exact in10 _ c2m9
            · exact hq)
      clear N10 NC FB
      repeat ((fail_if_success (with_reducible show wpAny _ _ (subscriptTail _ _ _ _) _ _ _)); walk1)
      rename News _ _ _ _ => NC
      refine tail_any (T := "list") (NC.isList mem1).typeIs PySem.slot_list_getitem.lookup (wpAny_getItem_list (NC.isList mem1) (by omega) (by omega) (x := .int (c : Int) tci) (by rw [Int.toNat_natCast]; simpa using hvi) ?_) (by with_unfolding_all rfl)
      repeat ((fail_if_success (with_reducible show wpAny _ _ (call (Value.ref 257) _) _ _ _)); walk1)
      rename Fr _ _ _ _ => FB
      rename News _ _ _ _ => ND
      have S10 := S9.sub (nx' := (lc, listOf ws.toArray 0) :: (s1.heap.objs.size + 1, oM2) :: (s1.heap.objs.size + 1 + 1, oD2) :: nx10) (fun p hp _ => memN3 (in10 p hp))
      have D10 := D9.sub (nx' := (lc, listOf ws.toArray 0) :: (s1.heap.objs.size + 1, oM2) :: (s1.heap.objs.size + 1 + 1, oD2) :: nx10) (fun p hp _ => memN3 (in10 p hp))
      refine due_core w (decide ((i : Int) < (stN : Int))) y1 y2 wr2 kw1 kw2 (Tof (csOf scr) i) (Mof (csOf scr) stN i) (waysAt (csOf scr) (i + 1)) _ (sz c) (shOf (waysAt (csOf scr) (i + 1))) (1200 * i) (due_shares_c w wr2 (waysAt (csOf scr) (i + 1)) (wt_fit hwti hi40) hnm2) _ _ _ _ _ _ _ _ _ _ _ _ _ _ _ _ _ _ _ _ _ _ _ B FB X ND T rfl (by decide) (by decide) (lv_dat ⟨wr2, wv2, wc2, rfl, memN3 hwm2, hws5⟩) D10 (sum_fit hTl hsl hwti hi40) (sum_fit hMl.1 hsl hwti hi40) hMl.2 (sum_fit (Nat.le_refl _) hsl hwti hi40) ?_
      intro h11 tk11 nx11 kw1' kw2' D11 keep11 fresh11 F11 N11
      k_steps
      rename Fr _ _ _ _ => FZ
      have d12 : d1 < d2 := Nat.lt_trans la2 o2
      have d2y1 : d2 < y1 := Nat.lt_trans lb2 oy1
      have S11 := S10.afterDue ND D10 (Nat.ne_of_lt (Nat.lt_trans d12 d2y1)) (Nat.ne_of_lt (Nat.lt_trans (Nat.lt_trans d12 d2y1) oy2)) (Nat.ne_of_lt d2y1) (Nat.ne_of_lt (Nat.lt_trans d2y1 oy2)) keep11
      obtain ⟨⟨py1, hpy1, hpd1⟩, ⟨py2, hpy2, hpd2⟩, _, _, _, _, _⟩ := id D10
      obtain ⟨_, _, hpe1⟩ := dict_data hpd1
      obtain ⟨_, _, hpe2⟩ := dict_data hpd2
      have ny : ∀ q ∈ (lc, listOf ws.toArray 0) :: (s1.heap.objs.size + 1, oM2) :: (s1.heap.objs.size + 1 + 1, oD2) :: nx10, (∀ es n, q.2.data ≠ .dict es n) → q ∈ nx11 := fun q hq h =>
        keep11 q hq (news_ne ND (a := q.1) (o := q.2) hq hpy1 (by rw [hpe1]; exact h _ _)) (news_ne ND (a := q.1) (o := q.2) hq hpy2 (by rw [hpe2]; exact h _ _))
      have hdc : (!decide ((i : Int) < (stN : Int))) = decide (stN ≤ i) := by
        rcases Nat.lt_or_ge i stN with h | h
        · rw [decide_eq_true (by omega), decide_eq_false (by omega)]; rfl
        · rw [decide_eq_false (by omega), decide_eq_true (by omega)]; rfl
      have hdc2 : decide (stN < i + 1) = decide (stN ≤ i) := by
        rcases Nat.lt_or_ge i stN with h | h
        · rw [decide_eq_false (by omega), decide_eq_false (by omega)]
        · rw [decide_eq_true (by omega), decide_eq_true (by omega)]
      rw [hdc] at D11
      have itn : it ∈ nx11 := by
        obtain ⟨_, _, _, e, _⟩ := hIt
        exact ny _ (memN3 (in10 _ itm9)) (fun _ _ e2 => by rw [e] at e2; cases e2)
      have tab10 : TabS ((lc, listOf ws.toArray 0) :: (s1.heap.objs.size + 1, oM2) :: (s1.heap.objs.size + 1 + 1, oD2) :: nx10) := tab9.keep fun q hq _ => memN3 (in10 q hq)
      refine ⟨.inl rfl, h11, _, _, nx11, rfl, FZ, N11, itn, ⟨⟨kv1', kv2', kw1', kw2', wr2, ?_, ?_, ⟨wr2, wv2, wc2, rfl, ny _ (memN3 hwm2) (fun _ _ e => nomatch e), hws5⟩, rfl, ?_⟩, ny _ (.head _) (fun _ _ e => nomatch e), ny _ mem2 (fun _ _ e => by rw [hM2] at e; cases e), ny _ mem3 (fun _ _ e => by rw [hD2] at e; cases e), tab10.keep fun q hq ⟨vs, e⟩ => ny q hq (fun _ _ e2 => by rw [e] at e2; cases e2), rfl, ⟨_, rfl⟩, rfl, rfl, ⟨_, rfl⟩⟩⟩
      · rw [Tof_succ hci, Mof_succ, hdc2]; exact S11
      · rw [Tof_succ hci, Mof_succ]; exact D11
      · intro r hr
        obtain ⟨vsr, cr, hmr⟩ := refs_in S9.v2 hr
        refine ⟨Nat.ne_of_lt (lt10 _ hmr), ?_, fun hw => ?_⟩
        · rcases fresh9 r hr with h | h
          · exact (sep r h).2.1
          · exact Nat.ne_of_gt (h _ (.head _))
        · rcases fresh11 r hw with h | h
          · rcases fresh9 r hr with h2 | h2
            · exact (sep r h2).2.2 h
            · obtain ⟨vsw, cw, hmw2⟩ := refs_in D8.v2 h
              exact Nat.lt_irrefl _ (h2 _ hmw2)
          · exact Nat.lt_irrefl _ (h _ (memN3 (in10 _ hmr)))
  · intro m₁ nx h tk hJ F₁ N₁
    clear F9 N9 hR
    obtain ⟨⟨kv1, kv2, kw1, kw2, wr, S, D, _, _, _⟩, _, c1m, c2m, tab, _, _, q3, q4, _⟩ := hJ
    rw [frame2 q3 q4] at F₁
    have N₃ := news_sub (b := (s1.heap.objs.size + 1, oM2) :: (s1.heap.objs.size + 1 + 1, oD2) :: nx) N₁ (fun q hq => by
      rcases List.mem_cons.mp hq with rfl | hq
      · exact c1m
      · rcases List.mem_cons.mp hq with rfl | hq
        · exact c2m
        · exact hq)
    have S3 := S.sub (nx' := (s1.heap.objs.size + 1, oM2) :: (s1.heap.objs.size + 1 + 1, oD2) :: nx) (fun p hp _ => .tail _ (.tail _ hp))
    have D3 := D.sub (nx' := (s1.heap.objs.size + 1, oM2) :: (s1.heap.objs.size + 1 + 1, oD2) :: nx) (fun p hp _ => .tail _ (.tail _ hp))
    have tab3 : TabS ((s1.heap.objs.size + 1, oM2) :: (s1.heap.objs.size + 1 + 1, oD2) :: nx) := tab.keep fun q hq _ => .tail _ (.tail _ hq)
    clear S D N₁ tab
    repeat ((fail_if_success (with_reducible show wpAny _ _ (getMethod _ _ _) _ _ _)); walk1)
    rename News _ _ _ _ => NG
    refine gm_freeze (X.keeps (Fr.keep (by assumption))) NG S3.f1 ?_
    dsimp only
    rename Fr _ _ _ _ => FG
    refine callWith_K0 (X.keeps FG.keep) keep69 ?_
    refine fs_freeze (w := w) _ x1 d1 _ kv1 _ _ _ _ _ _ _ _ _ _ _ _ _ _ _ _ _ _ _ _ _ _ _ B FG X NG T rfl (by decide) (by decide) S3.f1 tab3 (.inl rfl) ?_
    intro h8 tk8 nx8 S8 tab8 keep8 F8 N8
    obtain ⟨_, _, dxo1, _, hd1m, hDX1, _, _⟩ := S3.f1.parts
    obtain ⟨_, _, dxo2, _, hd2m, hDX2, _, _⟩ := S3.f2.parts
    have d12 : d1 < d2 := Nat.lt_trans la2 o2
    have d2y1 : d2 < y1 := Nat.lt_trans lb2 oy1
    have d164 : (64 : Nat) < d1 := Nat.lt_trans o3 (Nat.lt_trans (Nat.lt_trans (Nat.lt_trans hL0 hL1) la0) o1)
    have g2 := keep8 _ (.head _) (Ne.symm n4) (Ne.symm n6)
    have g3 := keep8 _ mem2 (Ne.symm m6) (Ne.symm m8)
    have f8 := S3.f2.keepF NG tab3 hd1m hDX1 (Nat.ne_of_gt d12) keep8
    have v8 := kv_keepF NG S3.v2 tab3 hd1m hDX1 keep8
    have D8 := D3.keepF NG tab3 hd1m hDX1 (Nat.ne_of_gt (Nat.lt_trans d12 d2y1)) (Nat.ne_of_gt (Nat.lt_trans (Nat.lt_trans d12 d2y1) oy2)) keep8
    have hd2b := keep8 _ hd2m (Nat.ne_of_gt d12) (Nat.ne_of_gt (Nat.lt_trans d164 d12))
    have N8b := news_sub (b := (s1.heap.objs.size + 1, oM2) :: nx8) N8 (fun q hq => (List.mem_cons.mp hq).elim (fun e => e ▸ g2) id)
    clear N8 NG
    repeat ((fail_if_success (with_reducible show wpAny _ _ (getMethod _ _ _) _ _ _)); walk1)
    rename News _ _ _ _ => NH
    refine gm_freeze (X.keeps (Fr.keep (by assumption))) NH (f8.keep fun q hq _ => .tail _ hq) ?_
    dsimp only
    rename Fr _ _ _ _ => FH
    refine callWith_K0 (X.keeps FH.keep) keep69 ?_
    have tab8b : TabS ((s1.heap.objs.size + 1, oM2) :: nx8) := tab8.keep fun q hq _ => .tail _ hq
    refine fs_freeze (w := w) _ x2 d2 _ kv2 _ _ _ _ _ _ _ _ _ _ _ _ _ _ _ _ _ _ _ _ _ _ _ B FH X NH T rfl (by decide) (by decide) (f8.keep fun q hq _ => .tail _ hq) tab8b (.inr rfl) ?_
    intro h9 tk9 nx9 S9 tab9 keep9 F9 N9
    have f9 := (S8.keep fun q hq _ => List.mem_cons_of_mem (s1.heap.objs.size + 1, oM2) hq).keepF NH tab8b (.tail _ hd2b) hDX2 (Nat.ne_of_lt d12) keep9
    have v9 := kv_keepF NH (kvl_keep (h₀ := ghostOf s1.heap [(68, 64)]) (h := h9) (L := s1.heap.objs.size) v8 fun q hq _ => List.mem_cons_of_mem (s1.heap.objs.size + 1, oM2) hq) tab8b (.tail _ hd2b) hDX2 keep9
    have D9 := (D8.sub (nx' := (s1.heap.objs.size + 1, oM2) :: nx8) fun p hp _ => .tail _ hp).keepF NH tab8b (.tail _ hd2b) hDX2 (Nat.ne_of_gt d2y1) (Nat.ne_of_gt (Nat.lt_trans d2y1 oy2)) keep9
    have c1m9 := keep9 _ (.head _) (Ne.symm n2) (Ne.symm n6)
    have c2m9 := keep9 _ (.tail _ g3) (Ne.symm m4) (Ne.symm m8)
    have S3v1 := S3.v1
    have S3nd := S3.nd
    clear S3 D3 tab3 S8 tab8 keep8 g2 g3 f8 v8 D8 hd2b NH tab8b keep9
    have N9b := news_sub (b := (s1.heap.objs.size + 1, oM2) :: (s1.heap.objs.size + 1 + 1, oD2) :: nx9) N9 (fun q hq => by
      rcases List.mem_cons.mp hq with rfl | hq
      · exact c1m9
      · rcases List.mem_cons.mp hq with rfl | hq
        · exact c2m9
        · exact hq)
    clear N9
    obtain ⟨tx, t64⟩ := tab_at tab9
    repeat ((fail_if_success (with_reducible show wpAny _ _ (eval (Expr.ListComp _ _ _ _) _) _ _ _)); walk1)
    rename Fr _ _ _ _ => FC
    rename News _ _ _ _ => NC
    k_dflt (refine LCg.ListComp_U (F₀ := FC) (by with_unfolding_all rfl) (by decide) (by rfl) (by decide) (by rfl) ?_)
    repeat ((fail_if_success (with_reducible show wpAny _ _ (call (Value.type "list") _) _ _ _)); walk1)
    rename Fr _ _ _ _ => FC
    rename News _ _ _ _ => NC
    obtain ⟨hb1, es1, en1, hx1m, DO1, _⟩ := id f9
    have hTl := Tof_len (csOf_low scr) (csOf scr).length (len_d hcl.2)
    have hMl := Mof_len (csOf_low scr) stN (csOf scr).length (len_d hcl.2)
    have lo1 : (x1 == sysModules) = false := beq_eq_false_iff_ne.mpr (Nat.ne_of_gt (Nat.lt_trans (by decide) hb1))
    have hes1 : es1.size ≤ 100000 := by
      have e1 := DO1.size
      have e2 := S3v1.length
      rw [e1, e2]
      exact Nat.le_trans hTl (len_c hcl.2)
    refine fdd_list rfl X FC NC (.tail _ (.tail _ hx1m)) rfl lo1 rfl (Nat.le_trans hes1 (by decide)) ?_
    intro lk ck hk tkk FK NK ltk
    refine LCg.CompSrc.ledger (by rfl) FK NK (.head _) (by rw [List.size_toArray, List.length_map, Array.length_toList]; exact Nat.le_trans hes1 (by decide)) ?_
    intro gk
    have hlen1 : es1.size = (Tof (csOf scr) (csOf scr).length).length := by
      have e1 := DO1.size
      have e2 := S3v1.length
      rw [e1, e2]; rfl
    refine comp_ind (fun i ys nz => FS w true x1 d1 (.type "int") kv1 nz ∧ FS w true x2 d2 (.type "list") kv2 nz ∧ KV (LV nz) kv2 (Mof (csOf scr) stN (csOf scr).length) ∧ DS w y1 y2 kw1 kw2 (Tof (csOf scr) (csOf scr).length) (Mof (csOf scr) stN (csOf scr).length) nz ∧ (s1.heap.objs.size + 1, oM2) ∈ nz ∧ (s1.heap.objs.size + 1 + 1, oD2) ∈ nz ∧ (lk, listOf (es1.toList.map (·.key)).toArray ck) ∈ nz ∧ (64, tabObj tx) ∈ nz ∧
      DatAll nz ys (((Tof (csOf scr) (csOf scr).length).take i).map fun p => .list (((aget (Mof (csOf scr) stN (csOf scr).length) p.1).getD []).map .str)))
      ⟨f9.keep fun q hq _ => .tail _ (.tail _ (.tail _ hq)), S9.keep fun q hq _ => .tail _ (.tail _ (.tail _ hq)), v9.mono fun _ _ ⟨r, vs, c, e, hm, hs⟩ => ⟨r, vs, c, e, .tail _ (.tail _ (.tail _ hm)), hs⟩, D9.sub fun p hp _ => .tail _ (.tail _ (.tail _ hp)), mem2, mem3, .head _, .tail _ (.tail _ (.tail _ t64)), .nil⟩ ?_ ?_
    · intro i ys nz v I oI C oC D m₂ h tk E' hi hv hP hC hx hF hN hoff hne
      obtain ⟨g1, g2, g3, g4, g5, g6, g7, g9, g8⟩ := hv
      have hP2 : (es1.toList.map (·.key))[i]? = some v := by simpa using hP
      rw [List.getElem?_map] at hP2
      obtain ⟨e, he, rfl⟩ := Option.map_eq_some_iff.mp hP2
      have hik : i < kv1.length := by
        have e1 := DO1.size
        have e2 : i < es1.toList.length := (List.getElem?_eq_some_iff.mp he).1
        rw [Array.length_toList] at e2; omega
      obtain ⟨⟨k, xv⟩, hkx⟩ : ∃ p, kv1[i]? = some p := ⟨_, List.getElem?_eq_getElem hik⟩
      obtain ⟨tkey, hkey⟩ := Value.isStrOf_shape (DO1.pairs.get? he hkx).1
      rw [hkey] at hx
      have hTk : ∃ y, (Tof (csOf scr) (csOf scr).length)[i]? = some (k, y) := by
        have h1 : (kv1.map (·.1))[i]? = some k := by rw [List.getElem?_map, hkx]; rfl
        have h2 := S3v1.keys
        have h3 : ((Tof (csOf scr) (csOf scr).length).map (·.1))[i]? = some k := h2 ▸ h1
        rw [List.getElem?_map] at h3
        obtain ⟨⟨k2, y⟩, h4, h5⟩ := Option.map_eq_some_iff.mp h3
        dsimp only at h5; subst h5
        exact ⟨y, h4⟩
      obtain ⟨yT, hTk⟩ := hTk
      have N5 := news_sub (b := (s1.heap.objs.size + 1, oM2) :: (I, oI) :: (C, oC) :: (D, LCg.lst ys) :: nz) hN (fun q hq => (List.mem_cons.mp hq).elim (fun e => e ▸ memN3 g5) (fun h => h))
      repeat ((fail_if_success (with_reducible show wpAny _ _ (subscriptTail _ _ _ _) _ _ _)); walk1)
      rename News _ _ _ _ => NQ
      rename Fr _ _ _ _ => FQ
      obtain ⟨es2, en2, hx2m, _, _⟩ := id g2.at_
      have htake : ((Tof (csOf scr) (csOf scr).length).take (i + 1)).map (fun p => Dat.list (((aget (Mof (csOf scr) stN (csOf scr).length) p.1).getD []).map .str)) = ((Tof (csOf scr) (csOf scr).length).take i).map (fun p => Dat.list (((aget (Mof (csOf scr) stN (csOf scr).length) p.1).getD []).map .str)) ++ [Dat.list (((aget (Mof (csOf scr) stN (csOf scr).length) k).getD []).map .str)] := by
        rw [List.take_add_one, hTk]; simp
      refine fs_tail (X.keeps FQ.keep) (NQ _ (memN4 hx2m)).1 rfl ?_
      refine fs_getF w x2 d2 (.type "list") kv2 k tkey _ _ _ _ _ _ _ _ _ _ _ _ _ _ _ _ _ _ _ _ _ _ _ B FQ X NQ T rfl (by decide) (by decide) (g2.keep fun q hq _ => memN4 hq) (.inr rfl) ?_ ?_ ?_
      · intro v tk' hv1
        rcases g3.get k with ⟨e1, _⟩ | ⟨v', b, e1, e2, hlv⟩
        · rw [hv1] at e1; cases e1
        · rw [hv1] at e1; cases e1
          refine ⟨_, tk', nz, rfl, FQ, fun q hq => NQ q (.tail _ hq), hoff, .inr ⟨_, g7, rfl, _, rfl⟩, g1, g2, g3, g4, g5, g6, g7, g9, ?_⟩
          rw [htake, e2]
          exact datAll_cat g8 (.cons (lv_datIn _ _ hlv) .nil)
      · intro e; injection e with e; exact absurd e (by decide)
      · intro _ hv1 r c h' tk' hrlt F' N'
        have e2 : aget (Mof (csOf scr) stN (csOf scr).length) k = none := by
          rcases g3.get k with ⟨_, e2⟩ | ⟨v', b, e1, _⟩
          · exact e2
          · rw [hv1] at e1; cases e1
        have nI : r ≠ I := Nat.ne_of_gt (hrlt (I, oI) mem2)
        have nC : r ≠ C := Nat.ne_of_gt (hrlt (C, oC) mem3)
        have nD : r ≠ D := Nat.ne_of_gt (hrlt (D, LCg.lst ys) mem4)
        refine ⟨h', tk', (r, emptyL c) :: nz, rfl, F', news_sub N' (fun q hq => ?_), ⟨⟨nI, nC, nD⟩, hoff⟩, .inr ⟨_, .tail _ g7, rfl, _, rfl⟩, g1.keep fun q hq _ => .tail _ hq, g2.keep fun q hq _ => .tail _ hq, kvl_keep (h₀ := ghostOf s1.heap [(68, 64)]) (h := h') (L := s1.heap.objs.size) g3 fun q hq _ => .tail _ hq, g4.sub fun p hp _ => .tail _ hp, .tail _ g5, .tail _ g6, .tail _ g7, .tail _ g9, ?_⟩
        · rcases List.mem_cons.mp hq with rfl | hq
          · exact .tail _ mem2
          · rcases List.mem_cons.mp hq with rfl | hq
            · exact .tail _ mem3
            · rcases List.mem_cons.mp hq with rfl | hq
              · exact .tail _ mem4
              · rcases List.mem_cons.mp hq with rfl | hq
                · exact .head _
                · exact .tail _ (memN4 hq)
        · rw [htake, e2]
          exact datAll_cat (g8.mono fun q hq => .tail _ hq) (.cons (.list (vs := []) (.head _) .nil) .nil)

    · intro ys nz hv
      obtain ⟨g1, g2, g3, g4, g5, g6, g7, g9, g8⟩ := hv
      intro D h tk F N o1
      have N2 := news_sub (b := (s1.heap.objs.size + 1, oM2) :: (s1.heap.objs.size + 1 + 1, oD2) :: (D, LCg.lst ys) :: nz) N (fun q hq => by
          rcases List.mem_cons.mp hq with rfl | hq
          · exact .tail _ g5
          · rcases List.mem_cons.mp hq with rfl | hq
            · exact .tail _ g6
            · exact hq)
      clear N
      repeat ((fail_if_success (with_reducible show wpAny _ _ (subscriptTail _ _ _ _) _ _ _)); walk1)
      have hTss := Tof_ss (csOf_low scr) (csOf scr).length
      have hMss := Mof_ss (csOf_low scr) stN (csOf scr).length
      have hk1 : aget kv1 (Str.ofString "//") = none := by
        rcases KV.get S3v1 (Str.ofString "//") with ⟨e, _⟩ | ⟨_, _, _, e, _⟩
        · exact e
        · exact absurd (e.symm.trans hTss) (fun h => nomatch h)
      have hk2 : aget kv2 (Str.ofString "//") = none := by
        rcases KV.get g3 (Str.ofString "//") with ⟨e, _⟩ | ⟨_, _, _, e, _⟩
        · exact e
        · exact absurd (e.symm.trans hMss) (fun h => nomatch h)
      rename News _ _ _ _ => NQ
      rename Fr _ _ _ _ => FQ
      obtain ⟨es1', en1', hx1z, _, _⟩ := id g1.at_
      obtain ⟨es2, en2, hx2z, _, _⟩ := id g2.at_
      refine fs_tail (X.keeps FQ.keep) (NQ _ (memN3 hx1z)).1 rfl ?_
      refine fs_getF w x1 d1 (.type "int") kv1 (Str.ofString "//") _ _ _ _ _ _ _ _ _ _ _ _ _ _ _ _ _ _ _ _ _ _ _ _ B FQ X NQ T rfl (by decide) (by decide) (g1.keep fun q hq _ => memN3 hq) (.inl rfl) ?_ ?_ ?_
      · intro v tk' hv1; rw [hk1] at hv1; cases hv1
      · intro _ _ t1 h2 tk2 F2 N3
        clear NQ FQ
        repeat ((fail_if_success (with_reducible show wpAny _ _ (subscriptTail _ _ _ _) _ _ _)); walk1)
        rename News _ _ _ _ => NQ
        rename Fr _ _ _ _ => FQ
        refine fs_tail (X.keeps FQ.keep) (NQ _ (memN3 hx2z)).1 rfl ?_
        refine fs_getF w x2 d2 (.type "list") kv2 (Str.ofString "//") _ _ _ _ _ _ _ _ _ _ _ _ _ _ _ _ _ _ _ _ _ _ _ _ B FQ X NQ T rfl (by decide) (by decide) (g2.keep fun q hq _ => memN3 hq) (.inr rfl) ?_ ?_ ?_
        · intro v tk' hv1; rw [hk2] at hv1; cases hv1
        · intro e; injection e with e; exact absurd e (by decide)
        · intro _ _ r1 c1 h3 tk3 hr1 F3 N4
          clear NQ FQ
          repeat ((fail_if_success (with_reducible show wpAny _ _ (binaryOp _ (Value.ref _) (Value.ref _)) _ _ _)); walk1)
          rename News _ _ _ _ => NQ
          rename Fr _ _ _ _ => FQ
          have hyl : ys.length ≤ 20000 := by
            have h1 := datAll_len g8
            rw [List.length_map] at h1
            have h2 := List.length_take_le' (List.map (fun x => x.key) es1.toList).toArray.size (Tof (csOf scr) (csOf scr).length)
            exact len_a h1 h2 hTl hcl.2
          refine kmk_add_lit (zs := ys ++ [Value.int 0 t1, Value.ref r1]) FQ NQ (NQ.isList (items := ys.toArray) (n := ys.length) (.tail _ (.tail _ mem3))) (NQ.isList mem1) rfl ?_ ?_
          · intro ak h4 F4 N5 hak
            have N6 := news_sub (b := (s1.heap.objs.size + 1, oM2) :: (s1.heap.objs.size + 1 + 1, oD2) :: (ak, listOf (ys ++ [Value.int 0 t1, Value.ref r1]).toArray 0) :: (r1, emptyL c1) :: nz) N5 (fun q hq => by
              rcases List.mem_cons.mp hq with rfl | hq
              · exact mem4
              · rcases List.mem_cons.mp hq with rfl | hq
                · exact .tail _ mem4
                · rcases List.mem_cons.mp hq with rfl | hq
                  · exact .head _
                  · rcases List.mem_cons.mp hq with rfl | hq
                    · exact mem3
                    · exact .tail _ (.tail _ (.tail _ (memN3 hq))))
            clear NQ FQ N5
            repeat ((fail_if_success (with_reducible show wpAny _ _ (eval (Expr.ListComp _ _ _ _) _) _ _ _)); walk1)
            rename News _ _ _ _ => NC
            rename Fr _ _ _ _ => FC
            obtain ⟨⟨py1, hpy1, hpd1⟩, ⟨py2, hpy2, hpd2⟩, lw1, lw2, _, kwT, kwM⟩ := id g4
            have hkwl : kw1.length ≤ 100000 := by
              exact Nat.le_trans (len_a kwT.length (Nat.le_refl _) hTl hcl.2) (by decide)
            k_dflt (refine LCg.ListComp_U (F₀ := FC) (by with_unfolding_all rfl) (by decide) (by rfl) (by decide) (by rfl) ?_)
            repeat ((fail_if_success (with_reducible show wpAny _ _ (call (Value.type "list") _) _ _ _)); walk1)
            rename Fr _ _ _ _ => FD
            rename News _ _ _ _ => ND
            refine kdl_list_keysS rfl FD ND (memN4 hpy1) hpd1 lw1 (Nat.le_trans hkwl (by decide)) ?_
            intro lk2 ck2 h5 tk5
            refine keysS_of ?_
            intro vk hvk F5 N7 hlk2
            have hvl : vk.length = kw1.length := by rw [hvk.length, List.length_map]
            refine LCg.CompSrc.ledger (by rfl) F5 N7 (.head _) (by rw [List.size_toArray, hvl]; exact Nat.le_trans hkwl (by decide)) ?_
            intro gk2
            refine comp_ind (fun i zs nw => (∀ q ∈ (lk2, listOf vk.toArray ck2) :: (s1.heap.objs.size + 1, oM2) :: (s1.heap.objs.size + 1 + 1, oD2) :: (ak, listOf (ys ++ [Value.int 0 t1, Value.ref r1]).toArray 0) :: (r1, emptyL c1) :: nz, q ∈ nw) ∧
              DatAll nw zs (((Tof (csOf scr) (csOf scr).length).take i).map fun p => .list (((aget (Mof (csOf scr) stN (csOf scr).length) p.1).getD []).map .str)))
              ⟨fun q hq => hq, .nil⟩ ?_ ?_
            · intro i zs nw v I oI C oC D2 m₂ h6 tk6 E' hi hv hP hC hx hF hN hoff hne
              obtain ⟨hb, hz⟩ := hv
              have hP2 : vk[i]? = some v := by simpa using hP
              obtain ⟨k, tkey, hk3, rfl⟩ := strs_at hvk hP2
              have hTk : ∃ y, (Tof (csOf scr) (csOf scr).length)[i]? = some (k, y) := by
                have h3 : ((Tof (csOf scr) (csOf scr).length).map (·.1))[i]? = some k := kwT.keys ▸ hk3
                rw [List.getElem?_map] at h3
                obtain ⟨⟨k2, y⟩, h4, h5⟩ := Option.map_eq_some_iff.mp h3
                dsimp only at h5; subst h5
                exact ⟨y, h4⟩
              obtain ⟨yT, hTk⟩ := hTk
              have htake : ((Tof (csOf scr) (csOf scr).length).take (i + 1)).map (fun p => Dat.list (((aget (Mof (csOf scr) stN (csOf scr).length) p.1).getD []).map .str)) = ((Tof (csOf scr) (csOf scr).length).take i).map (fun p => Dat.list (((aget (Mof (csOf scr) stN (csOf scr).length) p.1).getD []).map .str)) ++ [Dat.list (((aget (Mof (csOf scr) stN (csOf scr).length) k).getD []).map .str)] := by
                rw [List.take_add_one, hTk]; simp
              have N9 := news_sub (b := (s1.heap.objs.size + 1 + 1, oD2) :: (y2, py2) :: (I, oI) :: (C, oC) :: (D2, LCg.lst zs) :: nw) hN (fun q hq => by
                rcases List.mem_cons.mp hq with rfl | hq
                · exact memN3 (hb _ mem3)
                · rcases List.mem_cons.mp hq with rfl | hq
                  · exact memN3 (hb _ (.tail _ (memN4 hpy2)))
                  · exact hq)
              clear hN
              repeat ((fail_if_success (with_reducible show wpAny _ _ (call (Value.builtin "dict.get") _) _ _ _)); walk1)
              rename News _ _ _ _ => NE
              rename Fr _ _ _ _ => FE
              refine kdg_get2 (knd := PySem.strKind _ _) NE mem3 hpd2 lw2 (is_str w k tkey) (valueAt kw2 k) rfl ?_
              rename (_ ∧ _ ∧ _ ∧ _ ∧ _ ∧ AllLt _ nw) => hlE
              rename Addr => le
              obtain ⟨_, _, hlI, hlC, hlD, _⟩ := hlE
              rcases kwM.get k with ⟨e1, e2⟩ | ⟨v', b, e1, e2, hlv⟩
              · rw [show valueAt kw2 k = none from e1]
                dsimp only [Option.getD]
                subst qk
                refine ⟨_, _, (le, listOf #[] 0) :: nw, rfl, FE, news_sub NE (fun q hq => ?_), ⟨⟨Nat.ne_of_gt hlI, Nat.ne_of_gt hlC, Nat.ne_of_gt hlD⟩, hoff⟩, .inr ⟨_, .tail _ (hb _ (.head _)), rfl, _, rfl⟩, fun q hq => .tail _ (hb q hq), ?_⟩
                · rcases List.mem_cons.mp hq with rfl | hq
                  · exact mem4
                  · rcases List.mem_cons.mp hq with rfl | hq
                    · exact .tail _ mem4
                    · rcases List.mem_cons.mp hq with rfl | hq
                      · exact .tail _ (.tail _ mem4)
                      · rcases List.mem_cons.mp hq with rfl | hq
                        · exact .head _
                        · exact .tail _ (.tail _ (.tail _ (memN3 hq)))
                · rw [htake, e2]
                  exact datAll_cat (hz.mono fun q hq => .tail _ hq) (.cons (.list (vs := []) (.head _) .nil) .nil)
              · rw [show valueAt kw2 k = some v' from e1]
                dsimp only [Option.getD]
                subst qk
                refine ⟨_, _, nw, rfl, FE, news_sub NE (fun q hq => .tail _ (.tail _ (.tail _ hq))), hoff, .inr ⟨_, hb _ (.head _), rfl, _, rfl⟩, hb, ?_⟩
                rw [htake, e2]
                exact datAll_cat hz (.cons ((lv_datIn _ _ hlv).mono fun q hq => hb q (.tail _ (memN4 hq))) .nil)
            · intro zs nw hv
              obtain ⟨hb, hz⟩ := hv
              intro D2 h6 tk6 F6 N8 o2
              have hs1 : (List.map (fun x => x.key) es1.toList).toArray.size = (Tof (csOf scr) (csOf scr).length).length := by simpa using hlen1
              rw [List.take_of_length_le (Nat.le_of_eq hs1.symm)] at g8
              have hs2 : vk.toArray.size = (Tof (csOf scr) (csOf scr).length).length := by rw [List.size_toArray, hvl, kwT.length]
              rw [List.take_of_length_le (Nat.le_of_eq hs2.symm)] at hz
              have hzl : zs.length ≤ 20000 := by
                have h1 := datAll_len hz
                rw [List.length_map] at h1
                exact len_a h1 (Nat.le_refl _) hTl hcl.2
              repeat ((fail_if_success (with_reducible show wpAny _ _ (binaryOp _ (Value.ref _) (Value.ref _)) _ _ _)); walk1)
              rename News _ _ _ _ => NE
              rename Fr _ _ _ _ => FE
              refine kmk_add_lit FE NE (NE.isList (items := zs.toArray) (n := zs.length) mem3) (NE.isList mem1) rfl ?_ ?_
              · intro bk h7 F7 N9 hbk
                clear NE FE
                repeat ((fail_if_success (with_reducible show wpAny _ _ (compareOp _ _ _) _ _ _)); walk1)
                rename News _ _ _ _ => NE
                rename Fr _ _ _ _ => FE
                refine ne_same NE (.tail _ (.tail _ (.tail _ (.tail _ (hb _ mem4))))) (datAll_cat (g8.mono fun q hq => .tail _ (.tail _ (.tail _ (.tail _ (hb q (.tail _ (memN4 hq))))))) (.cons (.int 0 _) (.cons (.list (vs := []) (.tail _ (.tail _ (.tail _ (.tail _ (hb (r1, emptyL c1) (.tail _ mem4)))))) .nil) .nil)))
                  (.head _) (datAll_cat (hz.mono fun q hq => memN4 hq) (.cons (.int 0 _) (.cons (.list (vs := []) mem3 .nil) .nil))) (asked_ok2 (csOf_low scr) stN _) (by ktr_units) ?_
                repeat ((fail_if_success (with_reducible show wpAny _ _ (getMethod _ _ _) _ _ _)); walk1)
                rename Fr _ _ _ _ => FE
                have NF := news_sub (b := (s1.heap.objs.size + 1, oM2) :: (s1.heap.objs.size + 1 + 1, oD2) :: nz) NE (fun q hq => by
                  rcases List.mem_cons.mp hq with rfl | hq
                  · exact memN4 (hb _ mem2)
                  · rcases List.mem_cons.mp hq with rfl | hq
                    · exact memN4 (hb _ mem3)
                    · exact memN4 (hb _ (.tail _ (memN4 hq))))
                clear NE
                obtain ⟨esA, enA, hxA, DOA, _⟩ := id g1.at_
                obtain ⟨esB, enB, hxB, DOB, _⟩ := id g2.at_
                refine gm_items (X.keeps FE.keep) NF (g1.keep fun q hq _ => .tail _ (.tail _ hq)) ?_
                dsimp only
                repeat ((fail_if_success (with_reducible show wpAny _ _ (call (Value.builtin "dict.items") _) _ _ _)); walk1)
                have hTl2 := hTl
                have hMl2 := hMl.1
                have hsA : esA.size ≤ 20000 := by rw [DOA.size, KV.length S3v1]; exact len_b hTl2 hcl.2
                have hsB : esB.size ≤ 20000 := by rw [DOB.size, KV.length g3]; exact len_b hMl2 hcl.2
                refine im_call (fi_of (X.keeps FE.keep) (NF _ (.tail _ (.tail _ hxA))).1 rfl lo1) rfl ?_
                have NG := News.push FE NF (viewO x1)
                have FG := FE.push (viewO x1)
                clear FE NF
                repeat ((fail_if_success (with_reducible show wpAny _ _ (call (Value.type "list") _) _ _ _)); walk1)
                rename News _ _ _ _ => NE
                rename Fr _ _ _ _ => FE
                refine view_list rfl FE NE (.head _) (.tail _ (.tail _ (.tail _ hxA))) rfl (Nat.le_trans hsA (by decide)) ?_
                intro la ca h8 tk8 as1 has1 F8 N10 _ _
                obtain ⟨nA, NA, hnA, hAl, A1⟩ : ∃ nA, News (ghostOf s1.heap [(68, 64)]) s1.heap.objs.size h8 nA ∧ (∀ q ∈ nz, q ∈ nA) ∧ (la, listOf (as1.map Value.ref).toArray ca) ∈ nA ∧ DatAll nA (as1.map Value.ref) ((Tof (csOf scr) (csOf scr).length).map fun p => Dat.tuple [.str p.1, .int p.2]) :=
                  ⟨_, N10, fun q hq => .tail _ (List.mem_append_right _ (.tail _ (.tail _ (.tail _ hq)))), .head _, (tups_dat (f := Dat.int) iv_dat DOA S3v1 as1 has1).mono fun q hq => .tail _ hq⟩
                clear NE FE N10
                have NB := news_sub (b := (s1.heap.objs.size + 1, oM2) :: (s1.heap.objs.size + 1 + 1, oD2) :: (y1, py1) :: nA) NA (fun q hq => by
                  rcases List.mem_cons.mp hq with rfl | hq
                  · exact hnA _ g5
                  · rcases List.mem_cons.mp hq with rfl | hq
                    · exact hnA _ g6
                    · rcases List.mem_cons.mp hq with rfl | hq
                      · exact hnA _ hpy1
                      · exact hq)
                clear NA
                repeat ((fail_if_success (with_reducible show wpAny _ _ (call (Value.builtin "dict.items") _) _ _ _)); walk1)
                rename News _ _ _ _ => NE
                rename Fr _ _ _ _ => FE
                refine kdx_view FE NE mem3 hpd1 lw1 ?_
                intro vb h9 F9 N11 _
                clear FE NE
                repeat ((fail_if_success (with_reducible show wpAny _ _ (call (Value.type "list") _) _ _ _)); walk1)
                rename News _ _ _ _ => NE
                rename Fr _ _ _ _ => FE
                obtain ⟨esC, enC, hdC, DOC⟩ := dict_of hpd1
                have hsC : esC.size ≤ 20000 := by rw [DOC.size, kwT.length]; exact len_b hTl2 hcl.2
                refine view_list rfl FE NE (.head _) mem4 hdC (Nat.le_trans hsC (by decide)) ?_
                intro lb cb h10 tk10 as2 has2 F10 N12 _ _
                have B1 := (tups_dat (f := Dat.int) iv_dat DOC kwT as2 has2).mono (news' := (lb, listOf (as2.map Value.ref).toArray cb) :: (tupsOf as2 esC ++ (vb, viewO y1) :: (s1.heap.objs.size + 1, oM2) :: (s1.heap.objs.size + 1 + 1, oD2) :: (y1, py1) :: nA)) fun q hq => .tail _ hq
                clear NE FE
                repeat ((fail_if_success (with_reducible show wpAny _ _ (compareOp _ _ _) _ _ _)); walk1)
                refine eq_same N12 (.tail _ (List.mem_append_right _ (.tail _ (memN3 hAl)))) (A1.mono fun q hq => .tail _ (List.mem_append_right _ (.tail _ (memN3 hq)))) (.head _) B1 (itemsT_ok (csOf_low scr) _) (by ktr_units) ?_
                have NG := news_sub (b := (s1.heap.objs.size + 1, oM2) :: (s1.heap.objs.size + 1 + 1, oD2) :: nz) N12 (fun q hq => by
                  refine .tail _ (List.mem_append_right _ (.tail _ ?_))
                  rcases List.mem_cons.mp hq with rfl | hq
                  · exact .head _
                  · rcases List.mem_cons.mp hq with rfl | hq
                    · exact mem2
                    · exact memN3 (hnA _ hq))
                clear N12
                clear A1 B1 hdC DOC hsC has2 has1 hAl hb hz g8 hbk hak hlk2 hnA
                repeat ((fail_if_success (with_reducible show wpAny _ _ (getMethod _ _ _) _ _ _)); walk1)
                rename News _ _ _ _ => NE
                rename Fr _ _ _ _ => FE
                refine gm_items (X.keeps FE.keep) NE (g2.keep fun q hq _ => .tail _ (.tail _ hq)) ?_
                dsimp only
                repeat ((fail_if_success (with_reducible show wpAny _ _ (call (Value.builtin "dict.items") _) _ _ _)); walk1)
                have hb2 := g2.big
                have lo2 : (x2 == sysModules) = false := beq_eq_false_iff_ne.mpr (Nat.ne_of_gt (Nat.lt_trans (by decide) hb2))
                refine im_call (fi_of (X.keeps FE.keep) (NE _ (.tail _ (.tail _ hxB))).1 rfl lo2) rfl ?_
                have NH := News.push FE NE (viewO x2)
                have FH := FE.push (viewO x2)
                clear FE NE
                repeat ((fail_if_success (with_reducible show wpAny _ _ (call (Value.type "list") _) _ _ _)); walk1)
                rename News _ _ _ _ => NE
                rename Fr _ _ _ _ => FE
                refine view_list rfl FE NE (.head _) (.tail _ (.tail _ (.tail _ hxB))) rfl (Nat.le_trans hsB (by decide)) ?_
                intro lc3 cc3 h11 tk11 as3 has3 F11 N13 _ _
                obtain ⟨nB, NB, hBB⟩ : ∃ nB, News (ghostOf s1.heap [(68, 64)]) s1.heap.objs.size h11 nB ∧ True ∧ (∀ q ∈ nz, q ∈ nB) ∧ (lc3, listOf (as3.map Value.ref).toArray cc3) ∈ nB ∧ DatAll nB (as3.map Value.ref) ((Mof (csOf scr) stN (csOf scr).length).map fun p => Dat.tuple [.str p.1, .list (p.2.map .str)]) :=
                  ⟨_, N13, trivial, fun q hq => .tail _ (List.mem_append_right _ (.tail _ (.tail _ (.tail _ hq)))), .head _, (tups_dat (f := fun ss : List Str => Dat.list (ss.map .str)) lv_datIn DOB g3 as3 has3).mono fun q hq => by
                    rcases List.mem_append.mp hq with hq | hq
                    · exact .tail _ (List.mem_append_left _ hq)
                    · exact .tail _ (List.mem_append_right _ (.tail _ (.tail _ (.tail _ hq))))⟩
                clear NE FE N13
                have NC := news_sub (b := (s1.heap.objs.size + 1 + 1, oD2) :: (y2, py2) :: nB) NB (fun q hq => by
                  rcases List.mem_cons.mp hq with rfl | hq
                  · exact hBB.2.1 _ g6
                  · rcases List.mem_cons.mp hq with rfl | hq
                    · exact hBB.2.1 _ hpy2
                    · exact hq)
                clear NB
                repeat ((fail_if_success (with_reducible show wpAny _ _ (call (Value.builtin "dict.items") _) _ _ _)); walk1)
                rename News _ _ _ _ => NE
                rename Fr _ _ _ _ => FE
                refine kdx_view FE NE mem2 hpd2 lw2 ?_
                intro vd h12 F12 N14 _
                clear FE NE
                repeat ((fail_if_success (with_reducible show wpAny _ _ (call (Value.type "list") _) _ _ _)); walk1)
                rename News _ _ _ _ => NE
                rename Fr _ _ _ _ => FE
                obtain ⟨_, hnB, hBl, A2⟩ := hBB
                obtain ⟨esD, enD, hdD, DOD⟩ := dict_of hpd2
                have hsD : esD.size ≤ 20000 := by rw [DOD.size, kwM.length]; exact len_b hMl2 hcl.2
                refine view_list rfl FE NE (.head _) mem3 hdD (Nat.le_trans hsD (by decide)) ?_
                intro ld cd h13 tk13 as4 has4 F13 N15 _ _
                have B2 := (tups_dat (f := fun ss : List Str => Dat.list (ss.map .str)) lv_datIn DOD kwM as4 has4).mono (news' := (ld, listOf (as4.map Value.ref).toArray cd) :: (tupsOf as4 esD ++ (vd, viewO y2) :: (s1.heap.objs.size + 1 + 1, oD2) :: (y2, py2) :: nB)) (fun q hq => by
                    rcases List.mem_append.mp hq with hq | hq
                    · exact .tail _ (List.mem_append_left _ hq)
                    · exact .tail _ (List.mem_append_right _ (memN3 (hnB _ hq))))
                clear NE FE
                repeat ((fail_if_success (with_reducible show wpAny _ _ (compareOp _ _ _) _ _ _)); walk1)
                refine eq_same N15 (.tail _ (List.mem_append_right _ (memN3 hBl))) (A2.mono fun q hq => .tail _ (List.mem_append_right _ (memN3 hq))) (.head _) B2 (itemsM_ok (csOf_low scr) _ _) (by ktr_units) ?_
                have h64 := hnB _ g9
                clear A2 B2 hBl hnB
                refine ⟨?_, GrownAt.of N15 (.tail _ (List.mem_append_right _ (memN3 h64))), trivial⟩
                exact goodW_bool F13 (by assumption) (raisesW_false (none_raised scr)) (post_true scr)
              · exact room2 hzl
          · exact room2 hyl
      · intro e; injection e with e; exact absurd e (by decide))⟩
theorem PySem.Challenge.cw_in0194_01_holds : PySem.Challenge.rw_in0194_01.Holds := by
  exact Mine.law1
