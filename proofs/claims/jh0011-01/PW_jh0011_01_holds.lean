import PyProof.Rows.All
import Wide.All
import OpenK.AllK
import Wide.FinOn
import PySem.Challenge.RW_jh0011_01
set_option Elab.async false
section
open PySem PySem.W PySem.Calls PyProof.Rows
set_option Elab.async false
set_option maxRecDepth 100000
set_option maxHeartbeats 80000000
namespace Mine
def view0 : Program := view PySem.Challenge.pw_jh0011_01 [0, 2, 3, 4, 5, 6, 7, 8, 10, 11, 12, 14, 15, 16, 17, 18, 19]
def loose0 : List PySem.Str := ["_nothing", "JsonPointer", "_law_pieces", "_law_names"]
noncomputable def runT (stp : SharedT → Thread → Option (SharedT × Thread)) (thr ok : Thread → Bool) (n : Nat) : SharedT → Thread → Option SharedT :=
  Nat.rec (motive := fun _ => SharedT → Thread → Option SharedT) (fun _ _ => none) (fun _ ih s t => Bool.rec (Bool.rec none (Option.rec none (fun x => ih x.1 x.2) (stp s t)) (ok t)) (some s) (thr t)) n
theorem runT_spec {p : Program} {w : World} {n₀ : Nat} {ann : Option Value} : ∀ (n : Nat) (s s' : SharedT) (t : Thread), runT (stepT (denote treeTable) p w) through (stepOk n₀ ann) n s t = some s' → topRun treeTable p w n₀ ann n s.abs t = some s'.abs
  | 0, s, s', t, h => by cases h
  | n + 1, s, s', t, h => by
    unfold topRun
    change Bool.rec (Bool.rec none (Option.rec none (fun x => runT (stepT (denote treeTable) p w) through (stepOk n₀ ann) n x.1 x.2) (stepT (denote treeTable) p w s t)) (stepOk n₀ ann t)) (some s) (through t) = some s' at h
    cases ht : through t with
    | true => rw [ht] at h; cases h; rfl
    | false =>
      rw [ht] at h
      cases hk : stepOk n₀ ann t with
      | false => rw [hk] at h; cases h
      | true =>
        rw [hk] at h
        cases hs : stepT (denote treeTable) p w s t with
        | none => rw [hs] at h; cases h
        | some x =>
          obtain ⟨s₁, t₁⟩ := x
          rw [hs] at h
          have := stepT_spec hs
          simp only [this]
          exact runT_spec n s₁ s' t₁ h
noncomputable def bootT (P : Params) : BT := ((boot_heap P).objs.toList.foldl (fun (x : BT × Nat) o => (x.1.ins x.2 o, x.2 + 1)) (BT.nil, 0)).1
noncomputable def sharedT0 (w : World) (os : OsState) : SharedT := ⟨bootT w.params, (boot_heap w.params).objs.size, (boot_heap w.params).life, Array.mk [], boot_drawn, boot_toks, os⟩
theorem sharedT0_abs (w : World) (os : OsState) : (sharedT0 w os).abs = ⟨boot_heap w.params, Array.mk [], boot_drawn, boot_toks, os⟩ := by kernel_rfl
theorem leftO_of_boot {p q : Program} {loose : List Str} {Xt : Shared → Bool} {α : Type} {Yf : Shared → α} {Ya : World → α} {N : Nat} {g0 : Bool}
    (e : opening p = plainProg p.main.scope.names) (hN : Nat.ble 600 N = true) (f : ∀ s, fenceModules? p s = some s) (hi : ∀ w : World, ((boot_heap w.params).isNs mainGlobals && (Array.mk [] : Array GenState).size == 0) = true)
    (h : ∀ (w : World) (os : OsState), (runT (stepT (denote treeTable) p w) through (stepOk (boot_heap w.params).objs.size ((boot_heap w.params).nsMap mainGlobals "__annotations__")) N (sharedT0 w os) (topStub p)).map (fun s =>
      ((staticsOk (importedModules p.main.body) (boot_heap w.params) s.abs.heap && namesBound p s.abs.heap && gensDone s.abs && laidKept (boot_heap w.params) s.abs.heap),
        openSeen q loose (importedModules p.main.body) Xt g0 s.abs, Yf s.abs)) = some (true, openGood q loose, Ya w)) : LeftO p q loose Xt Yf Ya N g0 := by
  intro w
  obtain ⟨⟨hp, g, d, k, os⟩, hs, hv⟩ := Option.map_eq_some_iff.mp (boot_open (N := N) e hN f w)
  obtain ⟨rfl, hv⟩ := Prod.mk.inj hv
  obtain ⟨rfl, hv⟩ := Prod.mk.inj hv
  obtain ⟨rfl, rfl⟩ := Prod.mk.inj hv
  unfold openEnds
  rw [hs]
  obtain ⟨s, r, hv⟩ := Option.map_eq_some_iff.mp (h w os)
  obtain ⟨l1, hv⟩ := Prod.mk.inj hv
  have r := runT_spec _ _ _ _ r
  rw [sharedT0_abs] at r
  simp only [topFrom, hi w, r, Option.bind_some, l1, Option.map_some]
  exact congrArg some hv
end Mine
local macro_rules | `(tactic| o_head ($_ $k $a $e)) => `(tactic| (
    refine holds_open (q := Mine.view0) (loose := Mine.loose0) (Xt := fun s => xlAt Mine.view0 [] s && recOk (RowW.records (OpenRow.toRowW PySem.Challenge.rw_jh0011_01.row)) s) (XP := XL Mine.view0 []) (Yf := Hook.obs (kmHook $k $a $e [176, 196, 239])) (Ya := Hook.val (kmHook $k $a $e [176, 196, 239])) (YP := Hook.says (kmHook $k $a $e [176, 196, 239])) (N := 4780) ?hl (Hook.of (kmHook $k $a $e [176, 196, 239])) (Hook.keeps (kmHook $k $a $e [176, 196, 239])) (fun s e => xl_of s (Bool.and_eq_true_iff.mp e).1) XL.keeps (by rfl) (by rfl) (by rfl) (fun s e => recFacts_of (Bool.and_eq_true_iff.mp e).2) (by rfl) (by first | assumption | decide +kernel) (by decide +kernel) ⟨rfl, rfl, rfl, rfl, rfl, by decide +kernel⟩ ?hw ?hc
    (case hl =>
      refine Mine.leftO_of_boot (by kernel_rfl) (by decide) (fun s => by kernel_rfl) (fun w => by kernel_rfl) fun w os => ?_
      rw [PySem.W.Fast.te10156331382660048174, PySem.W.Fast.te14364793385576792824, PySem.W.Fast.te11892475500146522536, PySem.W.Fast.te6613529449190102663, PySem.W.Fast.te4187177175401517315]
      kernel_rfl)))
open_top hd for PySem.Challenge.rw_jh0011_01

end
section
open PySem PySem.Calls
open PySem.Builtin PySem.Builtin.Str
namespace Mine

/-- a text by its signs -/
def S (l : List Nat) : Str := ⟨l.toArray⟩
theorem S_toList (l : List Nat) : (S l).cps.toList = l := rfl
theorem S_length (l : List Nat) : (S l).length = l.length := by simp [S, Str.length]
theorem S_of (x : Str) : S x.cps.toList = x := by obtain ⟨a⟩ := x; simp [S]
theorem S_inj {a b : List Nat} (h : S a = S b) : a = b := by
  have := congrArg (fun x : Str => x.cps.toList) h
  simpa [S_toList] using this
theorem S_append (a b : List Nat) : S a ++ S b = S (a ++ b) := by
  apply Str.ext'
  simp [Str.cps_append, S]
theorem S_one (c : Nat) : S [c] = ⟨#[c]⟩ := rfl
theorem S_eq_iff (a b : List Nat) : S a = S b ↔ a = b := ⟨S_inj, fun h => h ▸ rfl⟩
theorem eqS {x : Str} {l : List Nat} (h : x.cps.toList = l) : x = S l := by rw [← h, S_of]

def flat1 (c : Nat) (z l : List Nat) : List Nat := l.flatMap fun k => if k = c then z else [k]
theorem flat1_free (c : Nat) (z : List Nat) : ∀ l : List Nat, c ∉ l → flat1 c z l = l
  | [], _ => rfl
  | k :: r, h => by
    have h1 : ¬ k = c := fun e => h (e ▸ List.mem_cons_self ..)
    have h2 : c ∉ r := fun m => h (List.mem_cons_of_mem _ m)
    show (if k = c then z else [k]) ++ flat1 c z r = _
    rw [if_neg h1, flat1_free c z r h2]; rfl
theorem flat1_append (c : Nat) (z a b : List Nat) : flat1 c z (a ++ b) = flat1 c z a ++ flat1 c z b := by
  simp [flat1]
theorem flat1_one (c : Nat) (z : List Nat) : flat1 c z [c] = z := by simp [flat1]
theorem flat1_join (c : Nat) (z : Str) : ∀ parts : List Str, (∀ p ∈ parts, c ∉ p.cps.toList) → (Str.join z parts).cps.toList = flat1 c z.cps.toList (Str.join ⟨#[c]⟩ parts).cps.toList
  | [], _ => rfl
  | [p], h => (flat1_free c _ _ (h p (List.mem_singleton.mpr rfl))).symm
  | p :: q :: r, h => by
    have ih := flat1_join c z (q :: r) fun a ha => h a (List.mem_cons_of_mem _ ha)
    show (p ++ z ++ Str.join z (q :: r)).cps.toList = flat1 c z.cps.toList (p ++ ⟨#[c]⟩ ++ Str.join ⟨#[c]⟩ (q :: r)).cps.toList
    simp only [Str.cps_append, Array.toList_append]
    rw [flat1_append, flat1_append, ih, flat1_free c _ _ (h p (List.mem_cons_self ..))]
    show _ = p.cps.toList ++ flat1 c z.cps.toList [c] ++ _
    rw [flat1_one]
theorem replace1 (x : Str) (c : Nat) (z : Str) : (Txt.replace x ⟨#[c]⟩ z).cps.toList = flat1 c z.cps.toList x.cps.toList := by
  rw [StrLaws.replace_one, flat1_join c z _ (StrLaws.split_free x c), StrLaws.join_split]
theorem replaceS1 (l z : List Nat) (c : Nat) : Txt.replace (S l) (S [c]) (S z) = S (flat1 c z l) := eqS (replace1 (S l) c (S z))

-- split at one sign
def consHead (k : Nat) : List (List Nat) → List (List Nat)
  | [] => [[k]]
  | p :: r => (k :: p) :: r
def splitL (c : Nat) : List Nat → List (List Nat)
  | [] => [[]]
  | k :: r => if k = c then [] :: splitL c r else consHead k (splitL c r)
theorem splitL_free (c : Nat) : ∀ p : List Nat, c ∉ p → splitL c p = [p]
  | [], _ => rfl
  | k :: r, h => by
    have h1 : ¬ k = c := fun e => h (e ▸ List.mem_cons_self ..)
    have h2 : c ∉ r := fun m => h (List.mem_cons_of_mem _ m)
    rw [splitL, if_neg h1, splitL_free c r h2]; rfl
theorem splitL_cut (c : Nat) (r : List Nat) : ∀ p : List Nat, c ∉ p → splitL c (p ++ c :: r) = p :: splitL c r
  | [], _ => by rw [List.nil_append, splitL, if_pos rfl]
  | k :: p, h => by
    have h1 : ¬ k = c := fun e => h (e ▸ List.mem_cons_self ..)
    have h2 : c ∉ p := fun m => h (List.mem_cons_of_mem _ m)
    rw [List.cons_append, splitL, if_neg h1, splitL_cut c r p h2]; rfl
theorem splitL_ne (c : Nat) : ∀ l, splitL c l ≠ []
  | [] => by simp [splitL]
  | k :: r => by
    rw [splitL]
    split
    · simp
    · cases h : splitL c r with
      | nil => simp [consHead]
      | cons p q => simp [consHead]
theorem splitL_join (c : Nat) : ∀ parts : List Str, parts ≠ [] → (∀ p ∈ parts, c ∉ p.cps.toList) → splitL c (Str.join ⟨#[c]⟩ parts).cps.toList = parts.map (·.cps.toList)
  | [p], _, h => splitL_free c _ (h p (List.mem_singleton.mpr rfl))
  | p :: q :: r, _, h => by
    have ih := splitL_join c (q :: r) (by simp) fun a ha => h a (List.mem_cons_of_mem _ ha)
    show splitL c (p ++ ⟨#[c]⟩ ++ Str.join ⟨#[c]⟩ (q :: r)).cps.toList = _
    simp only [Str.cps_append, Array.toList_append]
    rw [List.append_assoc]
    show splitL c (p.cps.toList ++ c :: (Str.join ⟨#[c]⟩ (q :: r)).cps.toList) = _
    rw [splitL_cut c _ _ (h p (List.mem_cons_self ..)), ih]; rfl
theorem split_ne (x : Str) (c : Nat) : Txt.split x ⟨#[c]⟩ ≠ [] := by
  unfold Txt.split
  split
  · simp
  · split
    · simp
    · rw [StrLaws.partsBetween_eq]
      obtain ⟨p, r, e⟩ := StrLaws.partsFrom_ne x (⟨#[c]⟩ : Str).length 0 (occurrences x ⟨#[c]⟩ 0 x.length (x.length + 1))
      rw [e]; simp
theorem splitS (l : List Nat) (c : Nat) : Txt.split (S l) (S [c]) = (splitL c l).map S := by
  have h := splitL_join c _ (split_ne (S l) c) (StrLaws.split_free (S l) c)
  rw [StrLaws.join_split, S_toList] at h
  rw [h, List.map_map]
  show Txt.split (S l) ⟨#[c]⟩ = _
  conv => lhs; rw [← List.map_id (Txt.split (S l) ⟨#[c]⟩)]
  apply List.map_congr_left
  intro x _
  exact (S_of x).symm

-- a replacement of two signs
def repl2 (a b : Nat) (z : List Nat) : List Nat → List Nat
  | [] => []
  | [k] => [k]
  | k :: j :: r => if k = a ∧ j = b then z ++ repl2 a b z r else k :: repl2 a b z (j :: r)
theorem at2_iff (x : Str) (a b i : Nat) : StrLaws.At x ⟨#[a, b]⟩ x.length i ↔ x.cps.toList[i]? = some a ∧ x.cps.toList[i + 1]? = some b := by
  unfold StrLaws.At
  rw [StrLaws.subAt_eq]
  have hn : x.cps.toList.length = x.length := by simp [Str.length]
  show i + 2 ≤ x.length ∧ ((x.cps.toList.drop i).take 2 == [a, b]) = true ↔ _
  generalize x.cps.toList = l at hn ⊢
  rw [← hn, beq_iff_eq]
  constructor
  · rintro ⟨_, h⟩
    have h0 := congrArg (·[0]?) h
    have h1 := congrArg (·[1]?) h
    simp only [List.getElem?_take, List.getElem?_drop] at h0 h1
    exact ⟨by simpa using h0, by simpa using h1⟩
  · rintro ⟨h0, h1⟩
    have l1 : i + 1 < l.length := (List.getElem?_eq_some_iff.mp h1).1
    refine ⟨by omega, ?_⟩
    apply List.ext_getElem?
    intro j
    rw [List.getElem?_take, List.getElem?_drop]
    match j with
    | 0 => simpa using h0
    | 1 => simpa using h1
    | j + 2 => rw [if_neg (by omega)]; simp
theorem repl2_skip {a b : Nat} {z : List Nat} {l : List Nat} : ∀ (n i : Nat), i + n ≤ l.length → (∀ k, i ≤ k → k < i + n → ¬ (l[k]? = some a ∧ l[k + 1]? = some b)) →
    repl2 a b z (l.drop i) = (l.drop i).take n ++ repl2 a b z (l.drop (i + n))
  | 0, i, _, _ => by simp
  | n + 1, i, hl, h => by
    have hi : i < l.length := by omega
    have ih := repl2_skip (a := a) (b := b) (z := z) n (i + 1) (by omega) fun k h1 h2 => h k (by omega) (by omega)
    rw [List.drop_eq_getElem_cons hi]
    have hno := h i (Nat.le_refl _) (by omega)
    rw [List.getElem?_eq_getElem hi] at hno
    have e : repl2 a b z (l[i] :: l.drop (i + 1)) = l[i] :: repl2 a b z (l.drop (i + 1)) := by
      cases hd : l.drop (i + 1) with
      | nil => rfl
      | cons j r =>
        have hj : l[i + 1]? = some j := by
          have := congrArg (·[0]?) hd
          simpa [List.getElem?_drop] using this
        rw [hj] at hno
        rw [repl2, if_neg (fun hc => hno ⟨by rw [hc.1], by rw [hc.2]⟩)]
    rw [e, ih, List.take_succ_cons]
    simp [Nat.add_assoc, Nat.add_comm 1 n]
theorem repl2_none {a b : Nat} {z : List Nat} {l : List Nat} {i : Nat} (hi : i ≤ l.length) (h : ∀ k, i ≤ k → ¬ (l[k]? = some a ∧ l[k + 1]? = some b)) : repl2 a b z (l.drop i) = l.drop i := by
  have := repl2_skip (a := a) (b := b) (z := z) (l := l) (l.length - i) i (by omega) fun k h1 _ => h k h1
  rw [this, show i + (l.length - i) = l.length from by omega, List.drop_length, repl2, List.append_nil]
  exact List.take_of_length_le (by simp)
theorem join_chain (x : Str) (a b : Nat) (z : Str) : ∀ (cuts : List Nat) (i f : Nat), i ≤ x.length → StrLaws.ChainG x ⟨#[a, b]⟩ x.length i cuts f → (∀ k, f ≤ k → ¬ StrLaws.At x ⟨#[a, b]⟩ x.length k) →
    (Str.join z (StrLaws.partsFrom x 2 i cuts)).cps.toList = repl2 a b z.cps.toList (x.cps.toList.drop i)
  | [], i, f, hi, h, hn => by
    have e : f = i := h
    subst e
    show (strSub x f x.length).cps.toList = _
    have hl : x.cps.toList.length = x.length := by simp [Str.length]
    rw [StrLaws.strSub_toList, repl2_none (by rw [hl]; exact hi) fun k hk => fun hc => hn k hk ((at2_iff x a b k).mpr hc)]
    exact List.take_of_length_le (by rw [List.length_drop, hl]; exact Nat.le_refl _)
  | c :: r, i, f, hi, h, hn => by
    obtain ⟨h1, h2, h3, h4⟩ := h
    have hl : x.cps.toList.length = x.length := by simp [Str.length]
    have hc2 : c + 2 ≤ x.length := h2.1
    have ih := join_chain x a b z r (c + 2) f hc2 h4 hn
    obtain ⟨p, q, e⟩ := StrLaws.partsFrom_ne x 2 (c + 2) r
    show (Str.join z (strSub x i c :: StrLaws.partsFrom x 2 (c + 2) r)).cps.toList = _
    rw [e] at ih ⊢
    show (strSub x i c ++ z ++ Str.join z (p :: q)).cps.toList = _
    simp only [Str.cps_append, Array.toList_append]
    rw [ih, StrLaws.strSub_toList]
    obtain ⟨ha, hb⟩ := (at2_iff x a b c).mp h2
    rw [repl2_skip (a := a) (b := b) (l := x.cps.toList) (c - i) i (by omega) fun k hk1 hk2 hcc => h3 k hk1 (by omega) ((at2_iff x a b k).mpr hcc), show i + (c - i) = c from by omega]
    have hc0 : c < x.cps.toList.length := by omega
    have hc1 : c + 1 < x.cps.toList.length := by omega
    rw [List.drop_eq_getElem_cons hc0, List.drop_eq_getElem_cons hc1]
    rw [List.getElem?_eq_getElem hc0] at ha
    rw [List.getElem?_eq_getElem hc1] at hb
    rw [repl2, if_pos ⟨Option.some.inj ha, Option.some.inj hb⟩, List.append_assoc]
theorem replace2 (x : Str) (a b : Nat) (z : Str) : (Txt.replace x ⟨#[a, b]⟩ z).cps.toList = repl2 a b z.cps.toList x.cps.toList := by
  obtain ⟨f, hG, hn⟩ := StrLaws.occ_tight x ⟨#[a, b]⟩ (by show 1 ≤ 2; omega)
  have key := join_chain x a b z _ 0 f (Nat.zero_le _) hG hn
  rw [List.drop_zero] at key
  unfold Txt.replace
  have h10 : ((⟨#[a, b]⟩ : Str).length == 0) = false := rfl
  rw [h10, Bool.false_and, Bool.or_false]
  split
  · rename_i he
    rw [List.isEmpty_iff] at he
    rw [he] at key
    rw [← key]
    show _ = (strSub x 0 x.length).cps.toList
    rw [StrLaws.sub_whole]
  · rw [StrLaws.glued_eq_join, StrLaws.partsBetween_eq]
    exact key
theorem replaceS2 (l z : List Nat) (a b : Nat) : Txt.replace (S l) (S [a, b]) (S z) = S (repl2 a b z l) := eqS (replace2 (S l) a b (S z))
end Mine

end
section
open PySem PySem.Calls
namespace Mine

def escC (k : Nat) : List Nat := if k = 126 then [126, 48] else if k = 47 then [126, 49] else [k]
def esc (l : List Nat) : List Nat := l.flatMap escC
theorem esc_cons (k : Nat) (r : List Nat) : esc (k :: r) = escC k ++ esc r := by simp [esc]
theorem esc_append (a b : List Nat) : esc (a ++ b) = esc a ++ esc b := by simp [esc]
theorem esc_eq (l : List Nat) : flat1 47 [126, 49] (flat1 126 [126, 48] l) = esc l := by
  induction l with
  | nil => rfl
  | cons k r ih =>
    have e : flat1 126 [126, 48] (k :: r) = (if k = 126 then [126, 48] else [k]) ++ flat1 126 [126, 48] r := by simp [flat1]
    rw [e, flat1_append, ih, esc_cons]
    congr 1
    unfold escC
    by_cases h : k = 126
    · subst h; decide
    · rw [if_neg h, if_neg h]
      by_cases h2 : k = 47
      · subst h2; decide
      · rw [if_neg h2, flat1_free _ _ _ (by simp; omega)]
theorem flat1_length (c : Nat) (z l : List Nat) (hz : z.length ≤ 2) : (flat1 c z l).length ≤ 2 * l.length := by
  induction l with
  | nil => simp [flat1]
  | cons k r ih =>
    have e : flat1 c z (k :: r) = (if k = c then z else [k]) ++ flat1 c z r := by simp [flat1]
    rw [e, List.length_append, List.length_cons]
    split <;> simp <;> omega
theorem esc_length (l : List Nat) : (esc l).length ≤ 2 * l.length := by
  induction l with
  | nil => simp [esc]
  | cons k r ih =>
    rw [esc_cons, List.length_append, List.length_cons]
    unfold escC
    split
    · simp; omega
    · split <;> simp <;> omega
theorem escC_free (k : Nat) : 47 ∉ escC k := by
  unfold escC
  split
  · simp
  · split
    · simp
    · simp; omega
theorem esc_free (l : List Nat) : 47 ∉ esc l := by
  simp only [esc, List.mem_flatMap, not_exists, not_and]
  exact fun k _ => escC_free k

def unesc (l : List Nat) : List Nat := repl2 126 48 [126] (repl2 126 49 [47] l)

/-- every ~ is followed by 0 or 1 -/
def badEsc : List Nat → Bool
  | [] => false
  | k :: r => (k == 126 && !(r.head? == some 48 || r.head? == some 49)) || badEsc r

-- one scan over a well escaped text
def scan : List Nat → List Nat
  | [] => []
  | [k] => [k]
  | k :: j :: r => if k = 126 ∧ j = 48 then 126 :: scan r else if k = 126 ∧ j = 49 then 47 :: scan r else k :: scan (j :: r)

theorem repl2_length_le (a b c : Nat) : ∀ l : List Nat, (repl2 a b [c] l).length ≤ l.length
  | [] => by simp [repl2]
  | [k] => by simp [repl2]
  | k :: j :: r => by
    have h1 := repl2_length_le a b c r
    have h2 := repl2_length_le a b c (j :: r)
    rw [repl2]
    split
    · simp at h1 ⊢; omega
    · simp at h2 ⊢; omega
theorem unesc_length (l : List Nat) : (unesc l).length ≤ l.length := Nat.le_trans (repl2_length_le ..) (repl2_length_le ..)

-- the first scan leaves each ~ followed by 0
theorem repl2_cons_ne {a b : Nat} {z : List Nat} {k : Nat} (hk : k ≠ a) (r : List Nat) : repl2 a b z (k :: r) = k :: repl2 a b z r := by
  cases r with
  | nil => rfl
  | cons j r => rw [repl2, if_neg (by simp [hk])]

theorem unesc_scan : ∀ l : List Nat, badEsc l = false → unesc l = scan l
  | [], _ => rfl
  | [k], h => by
    have hk : k ≠ 126 := by intro e; subst e; simp [badEsc] at h
    rfl
  | k :: j :: r, h => by
    simp only [badEsc, Bool.or_eq_false_iff] at h
    by_cases hk : k = 126
    · subst hk
      have hj : j = 48 ∨ j = 49 := by
        have := h.1
        simp at this
        omega
      have ih := unesc_scan r (by simpa using h.2.2)
      rcases hj with rfl | rfl
      · rw [scan, if_pos ⟨rfl, rfl⟩, ← ih]
        unfold unesc
        rw [repl2, if_neg (by simp), repl2_cons_ne (k := 48) (by decide), repl2, if_pos ⟨rfl, rfl⟩]; rfl
      · rw [scan, if_neg (by simp), if_pos ⟨rfl, rfl⟩, ← ih]
        unfold unesc
        rw [repl2, if_pos ⟨rfl, rfl⟩]
        show repl2 126 48 [126] (47 :: repl2 126 49 [47] r) = _
        rw [repl2_cons_ne (k := 47) (by decide)]
    · have ih := unesc_scan (j :: r) (by simp only [badEsc, Bool.or_eq_false_iff]; exact h.2)
      rw [scan, if_neg (by simp [hk]), if_neg (by simp [hk]), ← ih]
      unfold unesc
      rw [repl2_cons_ne hk, repl2_cons_ne hk]

theorem scan_cons_ne {k : Nat} (hk : k ≠ 126) (r : List Nat) : scan (k :: r) = k :: scan r := by
  cases r with
  | nil => rfl
  | cons j r => rw [scan, if_neg (by simp [hk]), if_neg (by simp [hk])]
theorem scan_escC_append (k : Nat) (t : List Nat) : scan (escC k ++ t) = k :: scan t := by
  unfold escC
  by_cases h : k = 126
  · subst h; rfl
  · rw [if_neg h]
    by_cases h2 : k = 47
    · subst h2; rfl
    · rw [if_neg h2]; exact scan_cons_ne h t
theorem scan_esc (l : List Nat) : scan (esc l) = l := by
  induction l with
  | nil => rfl
  | cons k r ih => rw [esc_cons, scan_escC_append, ih]

theorem badEsc_cons_ne {k : Nat} (hk : k ≠ 126) (r : List Nat) : badEsc (k :: r) = badEsc r := by
  rw [badEsc]; simp [hk]
theorem badEsc_escC (k : Nat) (t : List Nat) : badEsc (escC k ++ t) = badEsc t := by
  unfold escC
  by_cases h : k = 126
  · subst h
    show badEsc (126 :: 48 :: t) = _
    rw [badEsc]; simp; rw [badEsc_cons_ne (by decide)]
  · rw [if_neg h]
    by_cases h2 : k = 47
    · subst h2
      show badEsc (126 :: 49 :: t) = _
      rw [badEsc]; simp; rw [badEsc_cons_ne (by decide)]
    · rw [if_neg h2]; exact badEsc_cons_ne h t
theorem badEsc_esc (l t : List Nat) : badEsc (esc l ++ t) = badEsc t := by
  induction l with
  | nil => rfl
  | cons k r ih => rw [esc_cons, List.append_assoc, badEsc_escC, ih]
theorem badEsc_esc0 (l : List Nat) : badEsc (esc l) = false := by
  have := badEsc_esc l []
  rw [List.append_nil] at this
  exact this
theorem unesc_esc (l : List Nat) : unesc (esc l) = l := by rw [unesc_scan _ (badEsc_esc0 l), scan_esc]

/-- the text of a row of tokens -/
def pathOf (ps : List (List Nat)) : List Nat := ps.flatMap fun p => 47 :: esc p
theorem pathOf_cons (p : List Nat) (r) : pathOf (p :: r) = 47 :: (esc p ++ pathOf r) := by simp [pathOf]
theorem pathOf_append (a b) : pathOf (a ++ b) = pathOf a ++ pathOf b := by simp [pathOf]
theorem badEsc_pathOf (ps : List (List Nat)) : badEsc (pathOf ps) = false := by
  induction ps with
  | nil => rfl
  | cons p r ih => rw [pathOf_cons, badEsc_cons_ne (by decide), badEsc_esc, ih]
theorem splitL_pathOf : ∀ ps : List (List Nat), splitL 47 (pathOf ps) = [] :: ps.map esc
  | [] => rfl
  | p :: r => by
    rw [pathOf_cons, splitL, if_pos rfl]
    cases r with
    | nil => simp [pathOf, splitL_free 47 _ (esc_free p)]
    | cons q r =>
      have ih := splitL_pathOf (q :: r)
      rw [pathOf_cons] at ih ⊢
      rw [splitL_cut 47 _ _ (esc_free p)]
      rw [splitL, if_pos rfl, List.cons.injEq] at ih
      rw [ih.2]; rfl

/-- the tokens of a text -/
def toksOf (t : List Nat) : List (List Nat) := ((splitL 47 t).drop 1).map unesc
/-- a text that JsonPointer takes -/
def Valid (t : List Nat) : Prop := badEsc t = false ∧ (splitL 47 t).head? = some []
theorem valid_pathOf (ps : List (List Nat)) : Valid (pathOf ps) := ⟨badEsc_pathOf ps, by rw [splitL_pathOf]; rfl⟩
theorem toksOf_pathOf (ps : List (List Nat)) : toksOf (pathOf ps) = ps := by
  unfold toksOf
  rw [splitL_pathOf]
  show (ps.map esc).map unesc = ps
  rw [List.map_map]
  conv => rhs; rw [← List.map_id ps]
  exact List.map_congr_left fun p _ => unesc_esc p

-- the law's reader: the tokens so far, is a ~ open; none: refused
def rdStep : Option (List (List Nat) × Bool) → Nat → Option (List (List Nat) × Bool)
  | none, _ => none
  | some (ts, true), k => if k ≠ 48 ∧ k ≠ 49 then none else some (ts.dropLast ++ [ts.getLastD [] ++ [if k = 48 then 126 else 47]], false)
  | some (ts, false), k => if k = 47 then some (ts ++ [[]], false) else if ts = [] then none else if k = 126 then some (ts, true) else some (ts.dropLast ++ [ts.getLastD [] ++ [k]], false)
def rdEnd : Option (List (List Nat) × Bool) → Option (List (List Nat))
  | some (ts, false) => some ts
  | _ => none
def rd (t : List Nat) : Option (List (List Nat)) := rdEnd (t.foldl rdStep (some ([], false)))

theorem rd_none (t : List Nat) : t.foldl rdStep none = none := by
  induction t with
  | nil => rfl
  | cons k r ih => rw [List.foldl_cons]; exact ih
theorem dropLast_snoc (ts : List (List Nat)) (u : List Nat) : (ts ++ [u]).dropLast = ts := by simp
theorem getLastD_snoc (ts : List (List Nat)) (u d : List Nat) : (ts ++ [u]).getLastD d = u := by simp

/-- the reader from a state with an open token: what it makes of the rest -/
def rest1 (ts : List (List Nat)) (u : List Nat) (t : List Nat) : Option (List (List Nat)) :=
  if badEsc t then none else match splitL 47 t with
    | [] => none
    | p :: q => some (ts ++ [u ++ scan p] ++ q.map scan)
theorem consHead_cons (k : Nat) (p : List Nat) (q) : consHead k (p :: q) = (k :: p) :: q := rfl
theorem rd_open : ∀ (n : Nat) (t : List Nat), t.length ≤ n → ∀ (ts : List (List Nat)) (u : List Nat), rdEnd (t.foldl rdStep (some (ts ++ [u], false))) = rest1 ts u t := by
  intro n
  induction n with
  | zero =>
    intro t ht ts u
    have : t = [] := List.length_eq_zero_iff.mp (by omega)
    subst this
    simp [rest1, badEsc, splitL, scan, rdEnd]
  | succ n ih =>
    intro t ht ts u
    cases t with
    | nil => simp [rest1, badEsc, splitL, scan, rdEnd]
    | cons k r =>
      have hr : r.length ≤ n := by simp at ht; omega
      rw [List.foldl_cons]
      by_cases h47 : k = 47
      · subst h47
        rw [rdStep, if_pos rfl, ih r hr (ts ++ [u]) []]
        unfold rest1
        rw [badEsc_cons_ne (by decide), splitL, if_pos rfl]
        split
        · rfl
        · cases hs : splitL 47 r with
          | nil => exact absurd hs (splitL_ne 47 r)
          | cons p q => simp [scan]
      · by_cases h126 : k = 126
        · subst h126
          rw [rdStep, if_neg (by decide), if_neg (by simp), if_pos rfl]
          cases r with
          | nil => simp [rest1, badEsc, rdEnd]
          | cons j r =>
            have hr2 : r.length ≤ n := by simp at hr; omega
            rw [List.foldl_cons, rdStep]
            by_cases hj : j ≠ 48 ∧ j ≠ 49
            · rw [if_pos hj, rd_none]
              unfold rest1
              rw [if_pos]
              · rfl
              · rw [badEsc]; simp; left; omega
            · rw [if_neg hj, dropLast_snoc, getLastD_snoc, ih r hr2]
              have hj' : j = 48 ∨ j = 49 := by omega
              unfold rest1
              have hb : badEsc (126 :: j :: r) = badEsc r := by
                rw [badEsc]
                have : badEsc (j :: r) = badEsc r := badEsc_cons_ne (by omega) r
                rw [this]
                rcases hj' with rfl | rfl <;> simp
              rw [hb]
              split
              · rfl
              · have h1 : splitL 47 (126 :: j :: r) = consHead 126 (consHead j (splitL 47 r)) := by
                  rw [splitL, if_neg (by decide), splitL, if_neg (by omega)]
                rw [h1]
                cases hs : splitL 47 r with
                | nil => exact absurd hs (splitL_ne 47 r)
                | cons p q =>
                  rw [consHead_cons, consHead_cons]
                  rcases hj' with rfl | rfl
                  · simp [scan]
                  · simp [scan]
        · rw [rdStep, if_neg h47, if_neg (by simp), if_neg h126, dropLast_snoc, getLastD_snoc, ih r hr]
          unfold rest1
          rw [badEsc_cons_ne h126, splitL, if_neg h47]
          split
          · rfl
          · cases hs : splitL 47 r with
            | nil => exact absurd hs (splitL_ne 47 r)
            | cons p q =>
              rw [consHead_cons]
              simp [scan_cons_ne h126]
theorem badEsc_split : ∀ t : List Nat, badEsc t = false → ∀ p ∈ splitL 47 t, badEsc p = false
  | [], _, p, hp => by
    rw [splitL] at hp
    rw [List.mem_singleton.mp hp]; rfl
  | k :: r, h, p, hp => by
    rw [badEsc, Bool.or_eq_false_iff] at h
    have ih := badEsc_split r h.2
    rw [splitL] at hp
    split at hp
    · rcases List.mem_cons.mp hp with rfl | hp
      · rfl
      · exact ih p hp
    · rename_i h47
      cases hs : splitL 47 r with
      | nil => exact absurd hs (splitL_ne 47 r)
      | cons a q =>
        rw [hs] at hp ih
        rcases List.mem_cons.mp hp with rfl | hp
        · rw [badEsc, Bool.or_eq_false_iff]
          refine ⟨?_, ih a (List.mem_cons_self ..)⟩
          by_cases h126 : k = 126
          · subst h126
            have h1 := h.1
            cases r with
            | nil => simp at h1
            | cons j r =>
              simp at h1
              have hj : j = 48 ∨ j = 49 := by omega
              rw [splitL, if_neg (by omega)] at hs
              cases hs2 : splitL 47 r with
              | nil => exact absurd hs2 (splitL_ne 47 r)
              | cons b q2 =>
                rw [hs2, consHead_cons] at hs
                have := (List.cons.inj hs).1
                subst this
                rcases hj with rfl | rfl <;> simp
          · simp [h126]
        · exact ih p (List.mem_cons_of_mem _ hp)

/-- THE READER: it gives a text's tokens just where JsonPointer takes the text -/
theorem rd_spec (t : List Nat) : (Valid t ∧ rd t = some (toksOf t)) ∨ (¬ Valid t ∧ rd t = none) := by
  cases t with
  | nil => exact .inl ⟨⟨rfl, rfl⟩, rfl⟩
  | cons k r =>
    unfold rd
    rw [List.foldl_cons]
    by_cases h47 : k = 47
    · subst h47
      rw [rdStep, if_pos rfl, List.nil_append]
      have := rd_open r.length r (Nat.le_refl _) [] []
      rw [List.nil_append] at this
      rw [this]
      unfold rest1
      cases hb : badEsc r with
      | true =>
        refine .inr ⟨fun hv => ?_, rfl⟩
        have := hv.1
        rw [badEsc_cons_ne (by decide), hb] at this
        cases this
      | false =>
        refine .inl ⟨⟨by rw [badEsc_cons_ne (by decide), hb], by rw [splitL, if_pos rfl]; rfl⟩, ?_⟩
        have hs := badEsc_split r hb
        unfold toksOf
        rw [splitL, if_pos rfl]
        cases hs2 : splitL 47 r with
        | nil => exact absurd hs2 (splitL_ne 47 r)
        | cons p q =>
          rw [hs2] at hs
          simp only [Bool.false_eq_true, if_false, List.nil_append, List.drop_one, List.tail_cons, List.map_cons]
          rw [unesc_scan p (hs p (List.mem_cons_self ..))]
          rw [show q.map unesc = q.map scan from List.map_congr_left fun a ha => unesc_scan a (hs a (List.mem_cons_of_mem _ ha))]
          rfl
    · rw [rdStep, if_neg h47, if_pos rfl, rd_none]
      refine .inr ⟨fun hv => ?_, rfl⟩
      have := hv.2
      rw [splitL, if_neg h47] at this
      cases hs : splitL 47 r with
      | nil => exact absurd hs (splitL_ne 47 r)
      | cons p q => rw [hs, consHead_cons] at this; simp at this

-- a text that is taken is its tokens' text
theorem esc_scan : ∀ (n : Nat) (p : List Nat), p.length ≤ n → badEsc p = false → 47 ∉ p → esc (scan p) = p := by
  intro n
  induction n with
  | zero =>
    intro p hp _ _
    have : p = [] := List.length_eq_zero_iff.mp (by omega)
    subst this; rfl
  | succ n ih =>
    intro p hp hb hf
    cases p with
    | nil => rfl
    | cons k r =>
      rw [badEsc, Bool.or_eq_false_iff] at hb
      have hk47 : k ≠ 47 := fun e => hf (e ▸ List.mem_cons_self ..)
      have hfr : 47 ∉ r := fun m => hf (List.mem_cons_of_mem _ m)
      by_cases h126 : k = 126
      · subst h126
        cases r with
        | nil => simp at hb
        | cons j r =>
          have hj : j = 48 ∨ j = 49 := by have := hb.1; simp at this; omega
          have hb2 : badEsc r = false := by have := hb.2; rwa [badEsc_cons_ne (by omega)] at this
          have hr := ih r (by simp at hp; omega) hb2 fun m => hfr (List.mem_cons_of_mem _ m)
          rcases hj with rfl | rfl
          · rw [scan, if_pos ⟨rfl, rfl⟩, esc_cons, hr]; rfl
          · rw [scan, if_neg (by simp), if_pos ⟨rfl, rfl⟩, esc_cons, hr]; rfl
      · rw [scan_cons_ne h126, esc_cons, ih r (by simp at hp; omega) hb.2 hfr]
        unfold escC
        rw [if_neg h126, if_neg hk47]; rfl
theorem splitL_mem_free (c : Nat) : ∀ (t p : List Nat), p ∈ splitL c t → c ∉ p
  | [], p, h => by rw [splitL] at h; rw [List.mem_singleton.mp h]; simp
  | k :: r, p, h => by
    have ih := splitL_mem_free c r
    rw [splitL] at h
    split at h
    · rcases List.mem_cons.mp h with rfl | h
      · simp
      · exact ih p h
    · rename_i hk
      cases hs : splitL c r with
      | nil => exact absurd hs (splitL_ne c r)
      | cons a q =>
        rw [hs] at h ih
        rcases List.mem_cons.mp h with rfl | h
        · intro hm
          rcases List.mem_cons.mp hm with e | hm
          · exact hk e.symm
          · exact ih a (List.mem_cons_self ..) hm
        · exact ih p (List.mem_cons_of_mem _ h)
/-- the pieces behind the first, each with its sign ahead -/
theorem splitL_flat (c : Nat) : ∀ t : List Nat, ∀ p q, splitL c t = p :: q → t = p ++ q.flatMap fun a => c :: a
  | [], p, q, h => by rw [splitL] at h; cases h; rfl
  | k :: r, p, q, h => by
    cases hs : splitL c r with
    | nil => exact absurd hs (splitL_ne c r)
    | cons a b =>
      have ih := splitL_flat c r a b hs
      rw [splitL, hs] at h
      split at h
      · rename_i hk
        cases h
        rw [List.nil_append, List.flatMap_cons, List.cons_append, ← ih, hk]
      · cases h
        rw [List.cons_append, ← ih]
theorem pathOf_toksOf (t : List Nat) (hv : Valid t) : pathOf (toksOf t) = t := by
  obtain ⟨hb, hh⟩ := hv
  cases hs : splitL 47 t with
  | nil => exact absurd hs (splitL_ne 47 t)
  | cons p q =>
    rw [hs] at hh
    have hp : p = [] := by simpa using hh
    subst hp
    have hf := splitL_flat 47 t [] q hs
    have hbs := badEsc_split t hb
    have hfr := splitL_mem_free 47 t
    rw [hs] at hbs hfr
    unfold toksOf pathOf
    rw [hs]
    conv => rhs; rw [hf]
    simp only [List.drop_one, List.tail_cons, List.nil_append, List.flatMap_map]
    rw [List.flatMap_def, List.flatMap_def]
    congr 1
    apply List.map_congr_left
    intro a ha
    have ha' : a ∈ ([] : List Nat) :: q := List.mem_cons_of_mem _ ha
    rw [unesc_scan a (hbs a ha'), esc_scan a.length a (Nat.le_refl _) (hbs a ha') (hfr a ha')]
end Mine

end
section
open PySem PySem.W PySem.Calls PyProof.Rows
set_option Elab.async false
set_option maxRecDepth 100000
set_option maxHeartbeats 8000000
namespace Mine
abbrev prog : Program := PySem.Challenge.pw_jh0011_01

abbrev TR (loose : List Str) (mg mb : Str → Option Value) (h : Heap) : Prop := TopRead Mine.view0 loose mg mb h
theorem fill_it (P : (OpenLaw → (Params → Frag) → Prop)) (h : P PySem.Challenge.rw_jh0011_01 hd.heap_39) : P PySem.Challenge.rw_jh0011_01 hd.heap_39 := by
  k_fill
  exact h

theorem enterK {K : Frag} {w : World} {A : Around} {E : Value → Shared → Prop} {s : Shared} {Q : Value → Shared → Prop} {name qual : Str} {params : Arguments} {body : List Stmt} {scope : Scope} {dV kV doc pm cdv ct oc : Value} {an od : Option Addr} {osl : Array (Option Value)} {f : Addr} {args : List Value} {binds : List (Str × Value)}
    (X : K.In s.heap) (hlim : s.heap.NoLimit)
    (ho : K.lookup f = some ⟨oc, od, .func (fnOf name qual params body scope dV kV doc pm an cdv ct), osl⟩) (hcd : codeIn K cdv qual = true) (hroom : A.depth < recursionLimit)
    (hbind : BindsTo s (fnOf name qual params body scope dV kV doc pm an cdv ct) ⟨args, []⟩ binds) (hloc : ∀ y ∈ binds, scope.names.lookup y.1 = some .local)
    (h : ∀ h₁, Fr s.heap s.heap.objs.size h₁ (fun y => binds.reverse.lookup y) → News s.heap s.heap.objs.size h₁ [] →
      wpAny (model prog w) (A.deeper (envOf qual scope s.heap.objs.size f cdv)) (execs body (envOf qual scope s.heap.objs.size f cdv))
        (fun fl s' => Q (match fl with | .ret v => v | _ => .none) s') (fun _ _ => False) { s with heap := h₁, toks := s.toks + binds.length })
    (hcell : ∀ x ∈ scope.names, x.2 ≠ .cell) (hco : scope.isCoroutine = false) (hgen : scope.isGenerator = false) (hk : scope.kind = .function) :
    wpAny (model prog w) A (call (.ref f) args) Q E s := by
  refine wpAny_call (codeAny_call_def (fd := fnOf name qual params body scope dV kV doc pm an cdv ct) (body := body) (binds := binds) hroom (X _ _ ho) rfl hlim (codeRec_of X hcd) rfl hbind hcell hloc (fun h₁ hns hk₁ => ?_) hco hgen hk)
  exact wpAny_mono (h h₁ ⟨hns, hk₁, Nat.le_refl _⟩ News.nil) (fun fl s' q => q) fun _ _ x => x.elim

theorem execs_consG {M : Model} {A : Around} {E : Value → Shared → Prop} {env : Env} {st : Stmt} {rest : List Stmt} {Q : Flow → Shared → Prop} {hp : Heap} {g : Array GenState} {d : Drawn} {n : Nat} {os : OsState}
    (hpos : 0 < n) (h : ∀ tk, 0 < tk → wpAny M A (exec st env) (fun f s' => match f with | .next => wpAny M A (execs rest env) Q E s' | f => Q f s') E ⟨hp, g, d, tk, os⟩) :
    wpAny M A (execs (st :: rest) env) Q E ⟨hp, g, d, n, os⟩ := wpAny_execs_cons (h n hpos)

theorem litT : Str.ofString "~" = S [126] := by decide +kernel
theorem litT0 : Str.ofString "~0" = S [126, 48] := by decide +kernel
theorem litT1 : Str.ofString "~1" = S [126, 49] := by decide +kernel
theorem litS : Str.ofString "/" = S [47] := by decide +kernel
theorem lit0 : Str.ofString "0" = S [48] := by decide +kernel
theorem lit1 : Str.ofString "1" = S [49] := by decide +kernel
theorem litE : Str.ofString "" = S [] := by decide +kernel

theorem esc_val (l : List Nat) : Txt.replace (Txt.replace (S l) (Str.ofString "~") (Str.ofString "~0")) (Str.ofString "/") (Str.ofString "~1") = S (esc l) := by
  rw [litT, litT0, litS, litT1, replaceS1, replaceS1, esc_eq]
theorem unesc_val (l : List Nat) : Txt.replace (Txt.replace (S l) (Str.ofString "~1") (Str.ofString "/")) (Str.ofString "~0") (Str.ofString "~") = S (unesc l) := by
  rw [litT, litT0, litS, litT1, replaceS2, replaceS2]; rfl
theorem esc1_len (l : List Nat) : (Txt.replace (S l) (Str.ofString "~") (Str.ofString "~0")).length ≤ 2 * l.length := by
  rw [litT, litT0, replaceS1, S_length]; exact flat1_length _ _ _ (Nat.le_refl _)
theorem unesc1_len (l : List Nat) : (Txt.replace (S l) (Str.ofString "~1") (Str.ofString "/")).length ≤ l.length := by
  rw [litT1, litS, replaceS2, S_length]; exact repl2_length_le _ _ _ _

theorem replaceP {w : World} {A : Around} {E : Value → Shared → Prop} {s : Shared} {x y z : Str} {t u v : Tok} {Q : Value → Shared → Prop} (ht : 0 < s.toks) (hu : 0 < u) (hv : u < v) (hyz : (y == z) = false) (hx : x.length ≤ 1048576) (hz : z.length ≤ 14)
    (hq : ∀ t' k, 0 < k → Q (.str (Txt.replace x y z) t') { s with toks := k }) : wpAny (model prog w) A (call (.builtin "str.replace") [.str x t, .str y u, .str z v]) Q E s :=
  wpAny_with_toks ht (SC.replaceW (Nat.ne_of_gt hu) (Nat.ne_of_gt (Nat.lt_trans hu hv)) (Nat.ne_of_lt hv) hyz hx hz fun t' k hk => hq t' k hk)

theorem keepsOf {h : Heap} {L : Addr} {m : Str → Option Value} {s : Shared} {tk : Nat} (F : Fr s.heap L h m) : Keeps s { s with heap := h, toks := tk } := ⟨h, tk, rfl, F.keep⟩
end Mine

end
section
open PySem PySem.W PySem.Calls PyProof.Rows
set_option Elab.async false
set_option maxRecDepth 100000
set_option maxHeartbeats 8000000
namespace Mine
theorem fill_it2 (P : (OpenLaw → (Params → Frag) → Prop)) (h : P PySem.Challenge.rw_jh0011_01 hd.heap_39) : P PySem.Challenge.rw_jh0011_01 hd.heap_39 := by
  k_fill
  exact h
local macro_rules | `(tactic| walk_at "m go") => `(tactic| repeat (first | ((with_reducible show wpAny _ _ _ _ _ _); walk1) | (dsimp only; (with_reducible show wpAny _ _ _ _ _ _); walk1)))
section
variable {w : World} {A : Around} {E : Value → Shared → Prop} {s : Shared} {loose : List Str} {mg mb : Str → Option Value}
theorem escape_spec {l : List Nat} {t : Tok} (X : (hd.heap_39 w.params).In s.heap) (T : TopRead Mine.view0 loose mg mb s.heap) (hd : A.depth < recursionLimit) (hl : l.length ≤ 100000) :
    wpAny (model prog w) A (call (.ref 216) [.str (S l) t]) (fun v s' => (∃ t', v = .str (S (esc l)) t') ∧ Keeps s s') E s := by
  refine' enterK (binds := [(Str.ofString "s", .str (S l) t)]) X T.nolimit ?h1 ?h2 hd ?h3 ?h4 ?_ ?h5 ?h6 ?h7 ?h8
  case h1 => k_is
  case h2 => k_is
  case h3 => exact BindsTo.of_eq rfl
  case h4 => exact locs rfl
  case h5 => decide
  case h6 => exact rfl
  case h7 => exact rfl
  case h8 => exact rfl
  intro h₁ F N
  refine execs_consG (Nat.succ_pos _) fun tk htk => ?_
  walk_at "m go"
  refine replaceP (Nat.succ_pos _) htk (Nat.lt_succ_self _) (by decide +kernel) (by rw [S_length]; omega) (by decide +kernel) fun t1 k1 hk1 => ?_
  walk_at "m go"
  refine replaceP (Nat.succ_pos _) hk1 (Nat.lt_succ_self _) (by decide +kernel) (Nat.le_trans (esc1_len l) (by omega)) (by decide +kernel) fun t2 k2 hk2 => ?_
  rw [esc_val]
  exact ⟨⟨_, rfl⟩, keepsOf F⟩
theorem unescape_spec {l : List Nat} {t : Tok} (X : (hd.heap_39 w.params).In s.heap) (T : TopRead Mine.view0 loose mg mb s.heap) (hd : A.depth < recursionLimit) (hl : l.length ≤ 100000) :
    wpAny (model prog w) A (call (.ref 223) [.str (S l) t]) (fun v s' => (∃ t', v = .str (S (unesc l)) t') ∧ Keeps s s') E s := by
  refine' enterK (binds := [(Str.ofString "s", .str (S l) t)]) X T.nolimit ?h1 ?h2 hd ?h3 ?h4 ?_ ?h5 ?h6 ?h7 ?h8
  case h1 => k_is
  case h2 => k_is
  case h3 => exact BindsTo.of_eq rfl
  case h4 => exact locs rfl
  case h5 => decide
  case h6 => exact rfl
  case h7 => exact rfl
  case h8 => exact rfl
  intro h₁ F N
  refine execs_consG (Nat.succ_pos _) fun tk htk => ?_
  walk_at "m go"
  refine replaceP (Nat.succ_pos _) htk (Nat.lt_succ_self _) (by decide +kernel) (by rw [S_length]; omega) (by decide +kernel) fun t1 k1 hk1 => ?_
  walk_at "m go"
  refine replaceP (Nat.succ_pos _) hk1 (Nat.lt_succ_self _) (by decide +kernel) (Nat.le_trans (unesc1_len l) (by omega)) (by decide +kernel) fun t2 k2 hk2 => ?_
  rw [unesc_val]
  exact ⟨⟨_, rfl⟩, keepsOf F⟩
end
end Mine

end
section
open PySem PySem.W PySem.Calls PyProof.Rows
open PySem.Builtin PySem.Builtin.Str
set_option Elab.async false
set_option maxRecDepth 100000
set_option maxHeartbeats 8000000
namespace Mine
theorem fill_it3 (P : (OpenLaw → (Params → Frag) → Prop)) (h : P PySem.Challenge.rw_jh0011_01 hd.heap_39) : P PySem.Challenge.rw_jh0011_01 hd.heap_39 := by
  k_fill
  exact h
local macro_rules | `(tactic| walk_at "m go") => `(tactic| repeat (first | ((with_reducible show wpAny _ _ _ _ _ _); walk1; (try dsimp only)) | (with_reducible refine ite_tt ?_) | (with_reducible refine ite_ff ?_)))
def badAt (l : List Nat) (k : Nat) : Prop := l[k]? = some 126 ∧ ¬ (l[k + 1]? = some 48 ∨ l[k + 1]? = some 49)
theorem badEsc_iff : ∀ l : List Nat, badEsc l = true ↔ ∃ k, badAt l k
  | [] => by simp [badEsc, badAt]
  | a :: r => by
    have ih := badEsc_iff r
    rw [badEsc, Bool.or_eq_true, ih]
    constructor
    · rintro (h | ⟨k, hk⟩)
      · refine ⟨0, ?_⟩
        simp only [Bool.and_eq_true, beq_iff_eq, Bool.not_eq_true', Bool.or_eq_false_iff, beq_eq_false_iff_ne] at h
        refine ⟨by simp [h.1], ?_⟩
        rw [List.getElem?_cons_succ, ← List.head?_eq_getElem?]
        intro hc
        rcases hc with hc | hc
        · exact h.2.1 hc
        · exact h.2.2 hc
      · exact ⟨k + 1, by simpa [badAt] using hk⟩
    · rintro ⟨k, hk⟩
      cases k with
      | zero =>
        left
        obtain ⟨h1, h2⟩ := hk
        rw [List.getElem?_cons_succ, ← List.head?_eq_getElem?] at h2
        simp only [Bool.and_eq_true, beq_iff_eq, Bool.not_eq_true', Bool.or_eq_false_iff, beq_eq_false_iff_ne]
        refine ⟨by simpa using h1, fun e => h2 (.inl e), fun e => h2 (.inr e)⟩
      | succ k => exact .inr ⟨k, by simpa [badAt] using hk⟩
theorem rangeSize0 (n : Nat) : Builtin.Range.rangeSize 0 (n : Int) 1 = (n : Int) := by
  unfold Builtin.Range.rangeSize
  rw [if_pos (by decide)]
  split <;> omega
theorem slice_nat (l : List Nat) {a b : Nat} (hab : a ≤ b) : Txt.slice (S l) (some (a : Int)) (some (b : Int)) = S ((l.drop a).take (b - a)) := by
  have e : ∀ len : Nat, strSliceIndices (some (a : Int)) (some (b : Int)) 1 len = strSliceIndices (some ((min a len : Nat) : Int)) (some ((min b len : Nat) : Int)) 1 len := by
    intro len
    have h1 : ¬ ((a : Int) < 0) := by omega
    have h2 : ¬ ((b : Int) < 0) := by omega
    have h3 : ¬ (((min a len : Nat) : Int) < 0) := by omega
    have h4 : ¬ (((min b len : Nat) : Int) < 0) := by omega
    have e1 : max (0 : Int) (min (a : Int) (len : Int)) = max (0 : Int) (min ((min a len : Nat) : Int) (len : Int)) := by omega
    have e2 : max (0 : Int) (min (b : Int) (len : Int)) = max (0 : Int) (min ((min b len : Nat) : Int) (len : Int)) := by omega
    simp only [strSliceIndices, h1, h2, h3, h4, if_false, e1, e2, show ((1 : Int) > 0) = True from by simp, if_true]
  have hc : Txt.slice (S l) (some (a : Int)) (some (b : Int)) = Txt.slice (S l) (some ((min a l.length : Nat) : Int)) (some ((min b l.length : Nat) : Int)) := by
    unfold Txt.slice
    rw [S_length, e]
  rw [hc]
  have := StrLaws.sliceText_nat (S l) (a := min a l.length) (b := min b l.length) (by omega) (by rw [S_length]; omega)
  refine Eq.trans (show _ = _ from this) ?_
  show S _ = S _
  congr 1
  rw [S_toList]
  by_cases ha : a ≤ l.length
  · rw [show min a l.length = a from by omega]
    by_cases hb : b ≤ l.length
    · rw [show min b l.length = b from by omega]
    · rw [show min b l.length = l.length from by omega]
      rw [List.take_of_length_le (by simp), List.take_of_length_le (by simp; omega)]
  · rw [List.drop_of_length_le (by omega), List.drop_of_length_le (l := l) (i := a) (by omega)]
    simp
theorem S_beq (a b : List Nat) : (S a == S b) = (a == b) := by
  rw [Bool.eq_iff_iff, beq_iff_eq, beq_iff_eq]; exact S_eq_iff a b
theorem S_beq1 (c d : Nat) : (S [c] == S [d]) = (c == d) := by
  rw [S_beq, Bool.eq_iff_iff, beq_iff_eq, beq_iff_eq]; simp
section
variable {w : World} {A : Around} {E : Value → Shared → Prop} {s : Shared} {loose : List Str} {mg mb : Str → Option Value}
theorem itemS {l : List Nat} {t : Tok} {k : Int} {u : Tok} {c : Nat} {value slice : Expr} {Q : Value → Shared → Prop} (h0 : 0 ≤ k) (hc : l[k.toNat]? = some c) (hl : l.length ≤ 100000) (h : Q (.str (S [c]) s.toks) { s with toks := s.toks + 1 })
    (hs : subscripted slice false (.str (S l) t) (.int k u) = operate [.str (S l) t, .int k u] (getItem (.str (S l) t) (.int k u)) := by with_unfolding_all rfl)
    (ht : ∀ r, letTemporaryGo value (.str (S l) t) r = pure () := by intro _; with_unfolding_all rfl) :
    wpAny (model prog w) A (subscriptTail value slice (.str (S l) t) (.int k u)) Q E s := by
  have hlt : k.toNat < l.length := (List.getElem?_eq_some_iff.mp hc).1
  have e : Txt.item (S l) k = S [c] := item_meets h0 (by simpa [S] using hc)
  refine item_str (fitsSsize_of (N := 9223372036854775808) (by omega) (by omega) (Int.le_refl _)) (by rw [S_length]; omega) (by rw [S_length]; omega) (fun _ => ?_) hs ht
  rw [e]; exact h
theorem any01 (l : List Nat) (k : Nat) : ([Str.ofString "0", Str.ofString "1"].any fun x => x == S (List.take (k + 2 - (k + 1)) (List.drop (k + 1) l))) = decide (l[k + 1]? = some 48 ∨ l[k + 1]? = some 49) := by
  rw [lit0, lit1, show k + 2 - (k + 1) = 1 from by omega]
  have e : List.take 1 (List.drop (k + 1) l) = (l[k + 1]?).toList := by
    cases h : l[k + 1]? with
    | none => simp [List.drop_of_length_le (List.getElem?_eq_none_iff.mp h)]
    | some c =>
      have hlt := (List.getElem?_eq_some_iff.mp h).1
      rw [List.drop_eq_getElem_cons hlt]
      rw [List.getElem?_eq_getElem hlt] at h
      simp at h
      simp [h]
  rw [e]
  simp only [List.any_cons, List.any_nil, Bool.or_false, S_beq]
  cases l[k + 1]? with
  | none => rfl
  | some c =>
    rw [Bool.eq_iff_iff]
    simp
    omega
theorem bad_spec {l : List Nat} {t : Tok} (X : (hd.heap_39 w.params).In s.heap) (T : TopRead Mine.view0 loose mg mb s.heap) (hd : A.depth < recursionLimit) (hh : A.handled = none) (hl : l.length ≤ 100000) :
    wpAny (model prog w) A (call (.ref 57) [.str (S l) t]) (fun v s' => v = .bool (badEsc l) ∧ Keeps s s') E s := by
  refine' enterK (binds := [(Str.ofString "pointer", .str (S l) t)]) X T.nolimit ?h1 ?h2 hd ?h3 ?h4 ?_ ?h5 ?h6 ?h7 ?h8
  case h1 => k_is
  case h2 => k_is
  case h3 => exact BindsTo.of_eq rfl
  case h4 => exact locs rfl
  case h5 => decide
  case h6 => exact rfl
  case h7 => exact rfl
  case h8 => exact rfl
  intro h₁ F N
  refine execs_consG (Nat.succ_pos _) fun tk htk => ?_
  refine For_invV s.heap rfl rfl ?_ (fun _ => rfl)
  walk_at "m go"
  refine len_str (by rw [S_length]; omega) ?_
  walk_at "m go"
  rename_i h2 tk2 t1 u1 v1 hr F2 N2 hk2
  rw [S_length] at hr
  refine iter_rangeS (n := l.length) (fun (a : List Int) m nx => (∀ z, z ≠ Str.ofString "place" → m z = List.lookup z [(Str.ofString "pointer", Value.str (S l) t)].reverse) ∧ nx = [] ∧ ∀ k ∈ a, 0 ≤ k ∧ ¬ badAt l k.toNat) (fun a k => a ++ [k]) [] hh hr ?sm (rangeSize0 _) F2 N2 ⟨fun _ _ => rfl, rfl, by simp⟩ ?tu ?dn
  case sm => exact small_one (by decide) (by decide) (by omega) (by omega)
  case dn =>
    rintro m₁ nx h tk ⟨hm, rfl, ha⟩ F3 N3
    dsimp only
    walk_at "m go"
    refine ⟨?_, keepsOf F3⟩
    have hpre : ∀ (ks p : List Int), ks.foldl (fun a k => a ++ [k]) p = p ++ ks := fun ks => by
      induction ks with
      | nil => intro p; simp
      | cons k r ih => intro p; rw [List.foldl_cons, ih]; simp
    rw [hpre] at ha
    have : badEsc l = false := by
      cases hb : badEsc l with
      | false => rfl
      | true =>
        obtain ⟨k, hk⟩ := (badEsc_iff l).mp hb
        have hlt : k < l.length := (List.getElem?_eq_some_iff.mp hk.1).1
        exact absurd hk (ha (k : Int) (by simp [rangeKs]; exact ⟨k, hlt, rfl⟩)).2
    rw [this]
  case tu =>
    rintro k t a m₁ nx h tk own hk ho ⟨hm, rfl, ha⟩ F3 N3
    rw [map_none hm] at F3
    have hk2 := mem_rangeKs hk
    obtain ⟨kn, rfl⟩ := Int.eq_ofNat_of_zero_le hk2.1
    have hlt : kn < l.length := by omega
    dsimp only
    refine wpAny_execs_cons ?_
    walk_at "m go"
    refine itemS hk2.1 (List.getElem?_eq_getElem hlt) hl ?_
    walk_at "m go"
    rw [show (S [l[kn]] == Str.ofString "~") = (l[kn] == 126) from by rw [litT, S_beq1]]
    by_cases h126 : l[kn] = 126
    · rw [if_pos (by rw [h126]; rfl)]
      walk_at "m go"
      refine slice_strN_ss (hsz := by rw [S_length, sizeLine_eq]; omega) (s := ⟨_, _, _, _, _⟩) F3 N3 ?_
      intro h4 t4 k4 F4 N4
      rw [show ((kn : Int) + 1) = ((kn + 1 : Nat) : Int) from by omega, show ((kn : Int) + 2) = ((kn + 2 : Nat) : Int) from by omega, slice_nat l (by omega)]
      dsimp only
      walk_at "m go"
      rw [any01]
      by_cases hq : l[kn + 1]? = some 48 ∨ l[kn + 1]? = some 49
      · rw [decide_eq_true hq, if_neg (by decide)]
        walk_at "m go"
        exact InvEndN.intro (by assumption) (by assumption) ⟨fun z hz => if_neg hz, rfl, fun j hj => (List.mem_append.mp hj).elim (ha j) fun h => by rw [List.mem_singleton.mp h]; exact ⟨hk2.1, fun hb => hb.2 hq⟩⟩ rfl (fun _ h => nomatch h) (fun p hp => by simp [hp])
      · rw [decide_eq_false hq, if_pos (by decide)]
        walk_at "m go"
        refine ⟨?_, keepsOf (by assumption)⟩
        have : badEsc l = true := (badEsc_iff l).mpr ⟨kn, by rw [List.getElem?_eq_getElem hlt, h126], hq⟩
        rw [this]
    · rw [if_neg (by simpa using h126)]
      walk_at "m go"
      exact InvEndN.intro (by assumption) (by assumption) ⟨fun z hz => if_neg hz, rfl, fun j hj => (List.mem_append.mp hj).elim (ha j) fun h => by rw [List.mem_singleton.mp h]; refine ⟨hk2.1, fun hb => h126 ?_⟩; have := hb.1; rw [show ((kn : Int)).toNat = kn from rfl, List.getElem?_eq_getElem hlt] at this; exact Option.some.inj this⟩ rfl (fun _ h => nomatch h) (fun p hp => by simp [hp])
end
end Mine

end
section
open PySem PySem.W PySem.Calls PyProof.Rows
set_option Elab.async false
set_option maxRecDepth 100000
set_option maxHeartbeats 8000000
namespace Mine
/-- a list's values are these texts -/
def LS (vs : List Value) (ls : List (List Nat)) : Prop := StrsAre vs (ls.map S)
theorem LS.nil : LS [] [] := StrsAre.nil
theorem LS.cons {v : List Nat} {t : Tok} {vs : List Value} {ls : List (List Nat)} (h : LS vs ls) : LS (.str (S v) t :: vs) (v :: ls) := StrsAre.cons _ _ h
theorem LS.length {vs : List Value} {ls : List (List Nat)} (h : LS vs ls) : vs.length = ls.length := by
  have := StrsAre.length h; simpa using this
theorem LS.append {vs ws : List Value} {ls ms : List (List Nat)} (h : LS vs ls) (h' : LS ws ms) : LS (vs ++ ws) (ls ++ ms) := by
  have := StrsAre.append' h h'
  unfold LS; rw [List.map_append]; exact this
theorem LS.take {vs : List Value} {ls : List (List Nat)} (h : LS vs ls) (k : Nat) : LS (vs.take k) (ls.take k) := by
  have := StrsAre.take' h k
  unfold LS; rw [List.map_take]; exact this
theorem LS.drop {vs : List Value} {ls : List (List Nat)} (h : LS vs ls) (k : Nat) : LS (vs.drop k) (ls.drop k) := by
  have := StrsAre.drop' h k
  unfold LS; rw [List.map_drop]; exact this
theorem LS.get {vs : List Value} {ls : List (List Nat)} (h : LS vs ls) {i : Nat} {l : List Nat} (e : ls[i]? = some l) : ∃ t, vs[i]? = some (.str (S l) t) :=
  StrsAre.get h i (S l) (by rw [List.getElem?_map, e]; rfl)
theorem LS.snoc {vs : List Value} {ls : List (List Nat)} (h : LS vs ls) {l : List Nat} {t : Tok} : LS (vs ++ [.str (S l) t]) (ls ++ [l]) := h.append (LS.cons LS.nil)
theorem LS.setLast {vs : List Value} {ls : List (List Nat)} (h : LS vs ls) {l : List Nat} {t : Tok} (hne : ls ≠ []) : LS (vs.set (vs.length - 1) (.str (S l) t)) (ls.dropLast ++ [l]) := by
  have hl := h.length
  have hp : 0 < ls.length := List.length_pos_iff.mpr hne
  have e1 : vs.set (vs.length - 1) (.str (S l) t) = vs.take (vs.length - 1) ++ [.str (S l) t] := by
    rw [List.set_eq_take_append_cons_drop, if_pos (by omega), List.drop_of_length_le (by omega)]
  rw [e1, List.dropLast_eq_take, ← hl]
  exact (h.take _).snoc
theorem map_SS (ls : List (List Nat)) : (ls.map S).map PyData.str = ls.map fun l => PyData.str (S l) := by simp [List.map_map]
theorem LS.carried {vs : List Value} {ls : List (List Nat)} (h : LS vs ls) : CarriedAll vs (ls.map fun l => PyData.str (S l)) := by
  have := StrsAre.carried h
  rwa [map_SS] at this
/-- plain signs -/
def A7 (l : List Nat) : Prop := ∀ c ∈ l, c < 128
def A7L (ls : List (List Nat)) : Prop := ∀ l ∈ ls, A7 l
theorem A7.ok {l : List Nat} (h : A7 l) : PyData.strOk (S l) = true := by
  unfold PyData.strOk
  rw [← Array.all_toList, S_toList, List.all_eq_true]
  intro c hc
  have := h c hc
  simp; omega
theorem shapedS_canAll : ∀ ls : List (List Nat), A7L ls → PyData.canLayAll0 (ls.map fun l => PyData.str (S l)) = true
  | [], _ => rfl
  | a :: r, h => by simp [PyData.canLayAll0, PyData.canLay0, shapedS_canAll r (fun l hl => h l (List.mem_cons_of_mem _ hl)), (h a (List.mem_cons_self ..)).ok]
theorem shapedS_depth : ∀ ls : List (List Nat), PyData.depthAll (ls.map fun l => PyData.str (S l)) = 0
  | [] => rfl
  | _ :: r => by simp [PyData.depthAll, PyData.depth, shapedS_depth r]
theorem shapedS {ls : List (List Nat)} (h : A7L ls) : SeqAt.shaped (.list (ls.map fun l => PyData.str (S l))) = true := by
  simp [SeqAt.shaped, PyData.canLay0, PyData.depth, shapedS_canAll ls h, shapedS_depth]
theorem shapedTS {ls : List (List Nat)} (h : A7L ls) : SeqAt.shaped (.tuple (ls.map fun l => PyData.str (S l))) = true := by
  simp [SeqAt.shaped, PyData.canLay0, PyData.depth, shapedS_canAll ls h, shapedS_depth]
theorem sameAllS : ∀ ls ms : List (List Nat), PySem.Spec.sameAll (ls.map fun l => PyData.str (S l)) (ms.map fun l => PyData.str (S l)) = decide (ls = ms)
  | [], [] => by simp [PySem.Spec.sameAll]
  | [], _ :: _ => by simp [PySem.Spec.sameAll]
  | _ :: _, [] => by simp [PySem.Spec.sameAll]
  | a :: r, b :: t => by
    simp only [List.map_cons, PySem.Spec.sameAll, PySem.Spec.same, sameAllS r t]
    rw [show (S a == S b) = decide (a = b) from by rw [S_beq, Bool.eq_iff_iff]; simp]
    by_cases h : a = b <;> by_cases h' : r = t <;> simp [h, h']
theorem sameS (ls ms : List (List Nat)) : PySem.Spec.same (.list (ls.map fun l => PyData.str (S l))) (.list (ms.map fun l => PyData.str (S l))) = decide (ls = ms) := by
  simp only [PySem.Spec.same]; exact sameAllS ls ms
theorem sameTS (ls ms : List (List Nat)) : PySem.Spec.same (.tuple (ls.map fun l => PyData.str (S l))) (.tuple (ms.map fun l => PyData.str (S l))) = decide (ls = ms) := by
  simp only [PySem.Spec.same]; exact sameAllS ls ms
section
variable {w : World} {A : Around} {E : Value → Shared → Prop} {s : Shared} {a b : Addr} {xs ys : List Value} {ls ms : List (List Nat)} {Q : Value → Shared → Prop}
theorem eqLists (ha : s.heap.IsList a xs.toArray) (hb : s.heap.IsList b ys.toArray) (hi : LS xs ls) (hj : LS ys ms) (ca : A7L ls) (cb : A7L ms) (hu : A.units + 64 < cLine) (h : Q (.bool (decide (ls = ms))) s) :
    wpAny (model prog w) A (compareOp .Eq (.ref a) (.ref b)) Q E s :=
  eq_dataH_same (reads_newData ha hi.carried) (reads_newData hb hj.carried) (shapedS ca) (shapedS cb) hu (SeqAt.noMix_of_shape (.list .str) rfl _ _ (list_map_has fun _ => rfl) (list_map_has fun _ => rfl)) (by rw [sameS]; exact h)
theorem neLists (ha : s.heap.IsList a xs.toArray) (hb : s.heap.IsList b ys.toArray) (hi : LS xs ls) (hj : LS ys ms) (ca : A7L ls) (cb : A7L ms) (hu : A.units + 64 < cLine) (h : Q (.bool (!decide (ls = ms))) s) :
    wpAny (model prog w) A (compareOp .NotEq (.ref a) (.ref b)) Q E s :=
  ne_dataH_same (reads_newData ha hi.carried) (reads_newData hb hj.carried) (shapedS ca) (shapedS cb) hu (SeqAt.noMix_of_shape (.list .str) rfl _ _ (list_map_has fun _ => rfl) (list_map_has fun _ => rfl)) (by rw [sameS]; exact h)
theorem neTuples (ha : IsTup s.heap a xs.toArray) (hb : IsTup s.heap b ys.toArray) (hi : LS xs ls) (hj : LS ys ms) (ca : A7L ls) (cb : A7L ms) (hu : A.units + 64 < cLine) (h : Q (.bool (!decide (ls = ms))) s) :
    wpAny (model prog w) A (compareOp .NotEq (.ref a) (.ref b)) Q E s :=
  ne_dataH_same (reads_newDataT ha hi.carried) (reads_newDataT hb hj.carried) (shapedTS ca) (shapedTS cb) hu (SeqAt.noMix_of_shape (.tuples .str) rfl _ _ (tuples_map_has fun _ => rfl) (tuples_map_has fun _ => rfl)) (by rw [sameTS]; exact h)
end

section
variable {w : World} {A : Around} {E : Value → Shared → Prop} {s : Shared} {env : Env} {h₀ : Heap} {x : Str} {body : List Stmt} {Q : Flow → Shared → Prop}
/-- a loop over a text's signs -/
theorem iter_text {l : List Nat} {tx : Tok} {m₀ : Str → Option Value} {news : List (Addr × Obj)} (J : Nat → (Str → Option Value) → List (Addr × Obj) → Prop)
    (hh : A.handled = none) (F : Fr h₀ env.locals s.heap m₀) (N : News h₀ env.locals s.heap news) (hj : J 0 m₀ news)
    (turn : ∀ i c t m₁ news₁ h tk own, l[i]? = some c → news₁.map (·.1) = news.map (·.1) → OwnOff own (news.map (·.1)) → J i m₁ news₁ → Fr h₀ env.locals h (fun y => if y = x then some (.str (S [c]) t) else m₁ y) → News h₀ env.locals h (news₁ ++ own) →
      wpAny (model prog w) A (execs body env) (InvPostN h₀ env.locals (J (i + 1)) own (news.map (·.1)) ⟨h, s.gens, s.drawn, tk, s.os⟩ Q) E ⟨h, s.gens, s.drawn, tk, s.os⟩)
    (done : ∀ m₁ news₁ h tk, J l.length m₁ news₁ → Fr h₀ env.locals h m₁ → News h₀ env.locals h news₁ → Q .next ⟨h, s.gens, s.drawn, tk, s.os⟩) :
    wpAny (model prog w) A (pyIter (.str (S l) tx)) (fun it s₂ => LoopAtV prog w A h₀ env x body Q E it s₂) E s := by
  refine wpAny_pyIter_str fun o St hW hst => ?_
  have W := hW A hh
  have hsz : (S l).cps.size = l.length := by simp [S]
  rw [hsz] at W
  have hl0 : env.locals ≠ s.heap.objs.size := fun e => absurd F.ns.lt (e ▸ Nat.lt_irrefl _)
  refine loop_invN J W ?_ ?_ ?_ ?_ hst (F.push _) (fun p hp => ⟨Heap.get?_push_of_some _ (N p hp).1, (N p hp).2⟩) hj ?_ ?_
  · intro hm
    exact hl0 (List.mem_singleton.mp hm)
  · intro b hb
    rw [List.mem_singleton.mp hb]
    exact next_is_new F
  · intro p hp hI
    exact absurd (Heap.lt_size (N p hp).1) ((List.mem_singleton.mp hI) ▸ Nat.lt_irrefl _)
  · intro p hp hI
    exact absurd (Heap.lt_size (N p hp).1) ((List.mem_singleton.mp hI) ▸ Nat.lt_irrefl _)
  · rintro i v m₁ nx h tk own hi ⟨c, u, hn, rfl⟩ ha hoff hJ F₁ N₁
    have hc : l[i]? = some c := by simpa [S] using hn
    exact turn i c u m₁ nx h tk own hc ha hoff hJ F₁ N₁
  · intro m₁ nx h tk hJ F₁ N₁
    exact done m₁ nx h tk hJ F₁ N₁
/-- a loop over a list of texts (it lies in the frame's old heap) -/
theorem iter_list {a : Addr} {vs : List Value} {m₀ : Str → Option Value} {news : List (Addr × Obj)} (J : Nat → (Str → Option Value) → List (Addr × Obj) → Prop)
    (hh : A.handled = none) (hl : h₀.IsList a vs.toArray) (F : Fr h₀ env.locals s.heap m₀) (N : News h₀ env.locals s.heap news) (hj : J 0 m₀ news)
    (turn : ∀ i v m₁ news₁ h tk own, vs[i]? = some v → news₁.map (·.1) = news.map (·.1) → OwnOff own (news.map (·.1)) → J i m₁ news₁ → Fr h₀ env.locals h (fun y => if y = x then some v else m₁ y) → News h₀ env.locals h (news₁ ++ own) →
      wpAny (model prog w) A (execs body env) (InvPostN h₀ env.locals (J (i + 1)) own (news.map (·.1)) ⟨h, s.gens, s.drawn, tk, s.os⟩ Q) E ⟨h, s.gens, s.drawn, tk, s.os⟩)
    (done : ∀ m₁ news₁ h tk, J vs.length m₁ news₁ → Fr h₀ env.locals h m₁ → News h₀ env.locals h news₁ → Q .next ⟨h, s.gens, s.drawn, tk, s.os⟩) :
    wpAny (model prog w) A (pyIter (.ref a)) (fun it s₂ => LoopAtV prog w A h₀ env x body Q E it s₂) E s := by
  have hls : s.heap.IsList a vs.toArray := hl.at fun o e => F.keep a o e
  obtain ⟨ol, hol, _⟩ := id hl
  have hlt : a < h₀.objs.size := Heap.lt_size hol
  have hne : a ≠ s.heap.objs.size := Nat.ne_of_lt (Nat.lt_trans (Nat.lt_of_lt_of_le hlt F.above) F.ns.lt)
  refine wpAny_pyIter_list hls ?_
  have W := Walks.list (prog := prog) (w := w) hh s.heap.objs.size a hne vs.toArray
  have hsz : vs.toArray.size = vs.length := by simp
  rw [hsz] at W
  have hl0 : env.locals ≠ s.heap.objs.size := fun e => absurd F.ns.lt (e ▸ Nat.lt_irrefl _)
  have hla : env.locals ≠ a := fun e => absurd (Nat.lt_of_lt_of_le hlt F.above) (e ▸ Nat.lt_irrefl _)
  refine loop_invN J W ?_ ?_ ?_ ?_ ⟨⟨_, Heap.get?_push_size _ rfl, rfl, rfl⟩, hls.at fun o e => Heap.get?_push_of_some _ e⟩ (F.push _) (fun p hp => ⟨Heap.get?_push_of_some _ (N p hp).1, (N p hp).2⟩) hj ?_ ?_
  · intro hm
    rcases List.mem_cons.mp hm with e | hm
    · exact hl0 e
    · exact hla (List.mem_singleton.mp hm)
  · intro b hb
    rw [List.mem_singleton.mp hb]
    exact next_is_new F
  · intro p hp hI
    exact absurd (Heap.lt_size (N p hp).1) ((List.mem_singleton.mp hI) ▸ Nat.lt_irrefl _)
  · intro p hp hI
    rcases List.mem_cons.mp hI with e | hI
    · exact absurd (Heap.lt_size (N p hp).1) (e ▸ Nat.lt_irrefl _)
    · have := (N p hp).2.2
      rw [List.mem_singleton.mp hI, hol] at this
      cases this
  · rintro i v m₁ nx h tk own hi hn ha hoff hJ F₁ N₁
    have hc : vs[i]? = some v := by simpa using hn
    exact turn i v m₁ nx h tk own hc ha hoff hJ F₁ N₁
  · intro m₁ nx h tk hJ F₁ N₁
    exact done m₁ nx h tk hJ F₁ N₁
end
end Mine

end
section
open PySem PySem.W PySem.Calls PyProof.Rows
open PySem.Builtin PySem.Builtin.Str
set_option Elab.async false
set_option maxRecDepth 100000
set_option maxHeartbeats 8000000
namespace Mine
theorem fill_it4 (P : (OpenLaw → (Params → Frag) → Prop)) (h : P PySem.Challenge.rw_jh0011_01 hd.heap_39) : P PySem.Challenge.rw_jh0011_01 hd.heap_39 := by
  k_fill
  exact h
local macro_rules | `(tactic| walk_at "m go") => `(tactic| repeat (first | ((with_reducible show wpAny _ _ _ _ _ _); walk1; (try dsimp only)) | (with_reducible refine ite_tt ?_) | (with_reducible refine ite_ff ?_)))
/-- the frame's names in the reader's loop -/
def tokM (m : Str → Option Value) (l : List Nat) (t : Tok) (d : Addr) (b : Bool) : Prop :=
  (∀ z, z ≠ Str.ofString "sign" → z ≠ Str.ofString "tilde" → m z = if z = Str.ofString "tokens" then some (Value.ref d) else List.lookup z [(Str.ofString "text", Value.str (S l) t)].reverse) ∧ m (Str.ofString "tilde") = some (.bool b)
def tokJ (l : List Nat) (t : Tok) (d : Addr) (i : Nat) (m : Str → Option Value) (nx : List (Addr × Obj)) : Prop :=
  ∃ ts b vs c, (l.take i).foldl rdStep (some ([], false)) = some (ts, b) ∧ LS vs ts ∧ (∀ p ∈ ts, p.length ≤ i ∧ A7 p) ∧ ts.length ≤ i ∧ (b = true → ts ≠ []) ∧ nx = [(d, listOf vs.toArray c)] ∧ tokM m l t d b
section
variable {w : World} {A : Around} {E : Value → Shared → Prop} {s : Shared} {loose : List Str} {mg mb : Str → Option Value}
theorem News.dropN {h₀ h : Heap} {L : Addr} {p : Addr × Obj} {news : List (Addr × Obj)} (N : News h₀ L h (p :: news)) : News h₀ L h news := fun q hq => N q (.tail _ hq)
theorem appendL {h₀ : Heap} {L d : Addr} {m : Str → Option Value} {its : Array Value} {c : Nat} {x : Value} {rest : List (Addr × Obj)} {Q : Value → Shared → Prop} (F : Fr h₀ L s.heap m) (N : News h₀ L s.heap ((d, listOf its c) :: rest)) (hr : ∀ p ∈ rest, p.1 ≠ d)
    (h : ∀ h', Fr h₀ L h' m → News h₀ L h' ((d, listOf (its.push x) (c + 1)) :: rest) → Q .none { s with heap := h' }) (hsz : its.size ≤ sizeLine) : wpAny (model prog w) A (call (.builtin "list.append") [.ref d, x]) Q E s :=
  append_K F N (Upd.head hr) h hsz
theorem getLastL {d : Addr} {vs : List Value} {c : Nat} {v : Value} {u : Tok} {value slice : Expr} {Q : Value → Shared → Prop} (ho : s.heap.get? d = some (listOf vs.toArray c)) (hv : vs[vs.length - 1]? = some v) (h : Q v s)
    (hs : subscripted slice false (.ref d) (.int (-1) u) = operate [.ref d, .int (-1) u] (getItem (.ref d) (.int (-1) u)) := by with_unfolding_all rfl) :
    wpAny (model prog w) A (subscriptTail value slice (.ref d) (.int (-1) u)) Q E s := by
  have hl : s.heap.IsList d vs.toArray := PySem.IsL.isList (n := c) ho
  have hlt : vs.length - 1 < vs.length := (List.getElem?_eq_some_iff.mp hv).1
  refine tail_any hl.typeIs slot_list_getitem.lookup (wpAny_getItem_list_neg (x := v) hl (by decide) (by simp; omega) (by decide) ?_ h) hs
  have e : ((-1 : Int) + (vs.toArray.size : Nat)).toNat = vs.length - 1 := by simp; omega
  rw [e]
  simpa using hv
theorem setLastL {h₀ : Heap} {L d : Addr} {m : Str → Option Value} {vs : List Value} {c : Nat} {x : Value} {u : Tok} {rest : List (Addr × Obj)} {Q : Unit → Shared → Prop} (F : Fr h₀ L s.heap m) (N : News h₀ L s.heap ((d, listOf vs.toArray c) :: rest)) (hr : ∀ p ∈ rest, p.1 ≠ d) (hne : vs ≠ [])
    (h : ∀ h', Fr h₀ L h' m → News h₀ L h' ((d, listOf (vs.set (vs.length - 1) x).toArray c) :: rest) → Q () { s with heap := h' }) : wpAny (model prog w) A (setItem (.ref d) (.int (-1) u) x) Q E s := by
  have z := N (d, listOf vs.toArray c) (.head _)
  have hp : 0 < vs.length := List.length_pos_iff.mpr hne
  have e : ((-1 : Int) + (vs.toArray.size : Nat)).toNat = vs.length - 1 := by simp; omega
  refine ki_setBack z.1 (by decide) (by simp; omega) (by decide) (h _ (F.change (Heap.SameBut.update ..) z.2.1 z.2.2) (ki_turn (pre := []) _ N (fun _ h => nomatch h) hr ?_ ?_))
  · show vs.toArray.setIfInBounds ((-1 : Int) + (vs.toArray.size : Nat)).toNat x = _
    rw [e]
    apply Array.toList_inj.mp
    simp
  · simp
theorem rd_step {l : List Nat} {i c : Nat} {st : Option (List (List Nat) × Bool)} (hc : l[i]? = some c) (hf : (l.take i).foldl rdStep (some ([], false)) = st) : (l.take (i + 1)).foldl rdStep (some ([], false)) = rdStep st c := by
  rw [List.take_add_one, hc, List.foldl_append, hf]; rfl
theorem rd_after {l : List Nat} {i : Nat} (h : (l.take i).foldl rdStep (some ([], false)) = none) : rd l = none := by
  unfold rd
  have e := List.take_append_drop i l
  rw [← e, List.foldl_append, h, rd_none]; rfl
theorem tok_end {l : List Nat} {t : Tok} {d L : Addr} {i : Nat} {h₀ h' : Heap} {m' : Str → Option Value} {own rest : List (Addr × Obj)} {s₁ : Shared} {tk : Nat} {ts : List (List Nat)} {b : Bool} {vs : List Value} {c : Nat}
    (F : Fr h₀ L h' m') (N : News h₀ L h' ((d, listOf vs.toArray c) :: rest)) (hm : tokM m' l t d b) (hsub : ∀ p ∈ own, p ∈ (d, listOf vs.toArray c) :: rest)
    (hf : (l.take (i + 1)).foldl rdStep (some ([], false)) = some (ts, b)) (hvs : LS vs ts) (hb : ∀ p ∈ ts, p.length ≤ i + 1 ∧ A7 p) (hlen : ts.length ≤ i + 1) (hne : b = true → ts ≠ []) :
    InvEndN h₀ L (tokJ l t d (i + 1)) own [d] s₁ { s₁ with heap := h', toks := tk } :=
  InvEndN.intro F N ⟨ts, b, vs, c, hf, hvs, hb, hlen, hne, rfl, hm⟩ rfl (fun p hp => by rw [List.mem_singleton.mp hp]; exact .head _) hsub
theorem bd_last {ts : List (List Nat)} {i k : Nat} (hb : ∀ p ∈ ts, p.length ≤ i ∧ A7 p) (hk : k < 128) : ∀ p ∈ ts.dropLast ++ [ts.getLastD [] ++ [k]], p.length ≤ i + 1 ∧ A7 p := by
  intro p hp
  rcases List.mem_append.mp hp with hp | hp
  · have := hb p (List.dropLast_subset _ hp)
    exact ⟨by omega, this.2⟩
  · rw [List.mem_singleton.mp hp]
    have hg : (ts.getLastD []).length ≤ i ∧ A7 (ts.getLastD []) := by
      cases hq : ts.getLast? with
      | none =>
        have : ts = [] := List.getLast?_eq_none_iff.mp hq
        subst this
        exact ⟨Nat.zero_le _, fun _ h => nomatch h⟩
      | some a =>
        have e : ts.getLastD [] = a := by rw [List.getLastD_eq_getLast?, hq]; rfl
        rw [e]
        exact hb a (List.mem_of_getLast? hq)
    refine ⟨by rw [List.length_append]; have := hg.1; show _ + 1 ≤ _; omega, fun c hc => ?_⟩
    rcases List.mem_append.mp hc with hc | hc
    · exact hg.2 c hc
    · rw [List.mem_singleton.mp hc]; exact hk
theorem len_last (ts : List (List Nat)) (x : List Nat) (hne : ts ≠ []) : (ts.dropLast ++ [x]).length = ts.length := by
  have : 0 < ts.length := List.length_pos_iff.mpr hne
  simp; omega
theorem LS.last {vs : List Value} {ts : List (List Nat)} (h : LS vs ts) (hne : ts ≠ []) : ∃ t, vs[vs.length - 1]? = some (.str (S (ts.getLastD [])) t) := by
  have hp : 0 < ts.length := List.length_pos_iff.mpr hne
  rw [h.length]
  refine h.get ?_
  rw [List.getLastD_eq_getLast?, List.getLast?_eq_getElem?, List.getElem?_eq_getElem (by omega)]
  rfl
theorem addS {a b : List Nat} {t u : Tok} {Q : Value → Shared → Prop} (hsz : a.length + b.length ≤ 1000000) (h : ∀ t' tk, Q (.str (S (a ++ b)) t') { s with toks := tk }) : wpAny (model prog w) A (binaryOp .Add (.str (S a) t) (.str (S b) u)) Q E s := by
  refine PyProof.Rows.add_str (hsz := by rw [S_length, S_length, sizeLine_eq]; omega) ?_
  rw [S_append]; exact h
theorem lastD_len {ts : List (List Nat)} {i : Nat} (hb : ∀ p ∈ ts, p.length ≤ i ∧ A7 p) : (ts.getLastD []).length ≤ i := by
  have := bd_last hb (k := 0) (by decide) (ts.getLastD [] ++ [0]) (List.mem_append.mpr (.inr (List.mem_singleton.mpr rfl)))
  have h := this.1
  rw [List.length_append] at h
  have e : ([0] : List Nat).length = 1 := rfl
  omega
theorem tokens_spec {l : List Nat} {t : Tok} (X : (hd.heap_39 w.params).In s.heap) (T : TopRead Mine.view0 loose mg mb s.heap) (hd : A.depth < recursionLimit) (hu : A.units + 100 < cLine) (hh : A.handled = none) (hl : l.length ≤ 100000) (h7 : A7 l) :
    wpAny (model prog w) A (call (.ref 260) [.str (S l) t]) (fun v s' => Keeps s s' ∧ ((rd l = none ∧ v = .none) ∨ ∃ ts a vs c, rd l = some ts ∧ v = .ref a ∧ s'.heap.get? a = some (listOf vs.toArray c) ∧ LS vs ts ∧ s.heap.get? a = none)) E s := by
  refine' enterK (binds := [(Str.ofString "text", .str (S l) t)]) X T.nolimit ?h1 ?h2 hd ?h3 ?h4 ?_ ?h5 ?h6 ?h7 ?h8
  case h1 => k_is
  case h2 => k_is
  case h3 => exact BindsTo.of_eq rfl
  case h4 => exact locs rfl
  case h5 => decide
  case h6 => exact rfl
  case h7 => exact rfl
  case h8 => exact rfl
  intro h₁ F N
  refine wpAny_execs_cons ?_
  walk_at "m go"
  rename_i d h0 l1 h2 tk0 h3 F3 N3
  refine For_invV s.heap rfl rfl ?_ (fun _ => rfl)
  walk1
  refine iter_text (tokJ l t d) hh F3 N3 ⟨[], false, [], 0, rfl, LS.nil, (fun _ h => nomatch h), Nat.le_refl _, (fun h => nomatch h), rfl, fun z h1 h2 => if_neg h2, rfl⟩ ?tu ?dn
  case dn =>
    rintro m₁ nx h tk ⟨ts, b, vs, c, hf, hvs, h7s, hlen, hne, rfl, hm1, hm2⟩ F4 N4
    dsimp only
    rw [show m₁ = fun z => if z = Str.ofString "sign" then m₁ z else if z = Str.ofString "tilde" then some (.bool b) else if z = Str.ofString "tokens" then some (Value.ref d) else List.lookup z [(Str.ofString "text", Value.str (S l) t)].reverse from (done_one hm2 hm1).symm] at F4
    rw [List.take_length] at hf
    cases b
    · walk_at "m go"
      exact ⟨keepsOf F4, .inr ⟨ts, d, vs, c, by simp [rd, hf, rdEnd], rfl, (N4 _ (.head _)).1, hvs, (N4 _ (.head _)).2.2⟩⟩
    · walk_at "m go"
      exact ⟨keepsOf F4, .inl ⟨by simp [rd, hf, rdEnd], rfl⟩⟩
  case tu =>
    rintro i c u m₁ nx h tk own hc ha ho ⟨ts, b, vs, cc, hf, hvs, h7s, hlen, hne, rfl, hm1, hm2⟩ F4 N4
    rw [map_one hm2 hm1] at F4
    have hil : i < l.length := (List.getElem?_eq_some_iff.mp hc).1
    have hro : ∀ p ∈ own, p.1 ≠ d := fun p hp => ho p hp d (.head _)
    have hvl := hvs.length
    have hu' : (A.deeper (envOf (Str.ofString "_law_tokens") { kind := ScopeKind.function, names := [(Str.ofString "text", NameKind.local), (Str.ofString "tokens", NameKind.local), (Str.ofString "tilde", NameKind.local), (Str.ofString "sign", NameKind.local)], isGenerator := false, isCoroutine := false } s.heap.objs.size 260 (Value.ref 259))).units + 64 < cLine := by show A.units + 3 + 64 < cLine; omega
    rw [List.singleton_append] at N4
    dsimp only
    cases b
    · walk_at "m go"
      rw [show (S [c] == Str.ofString "/") = (c == 47) from by rw [litS, S_beq1]]
      by_cases h47 : c = 47
      · rw [if_pos (by simpa using h47)]
        have hnew : (l.take (i + 1)).foldl rdStep (some ([], false)) = some (ts ++ [[]], false) := by rw [rd_step hc hf, rdStep, if_pos h47]
        walk_at "m go"
        rename_i tk4 h5 F5 N5
        rw [litE, List.push_toArray] at N5
        refine tok_end F5 N5 ⟨fun z h1 h2 => ?_, rfl⟩ (fun p hp => .tail _ hp) hnew hvs.snoc (fun p hp => ?_) (by simp; omega) (fun h => nomatch h)
        · simp only [if_neg h1, if_neg h2]
        · rcases List.mem_append.mp hp with hp | hp
          · exact ⟨Nat.le_succ_of_le (h7s p hp).1, (h7s p hp).2⟩
          · rw [List.mem_singleton.mp hp]; exact ⟨Nat.zero_le _, fun _ h => nomatch h⟩
      · rw [if_neg (by simpa using h47)]
        walk_at "m go"
        rename_i d2 h5 F5 N5 l5
        refine eqLists (ys := []) (ms := []) (PySem.IsL.isList (n := cc) (N5 _ (.tail _ (.head _))).1) (PySem.IsL.isList (n := 0) (N5 _ (.head _)).1) hvs LS.nil (fun p hp => (h7s p hp).2) (fun _ h => nomatch h) hu' ?_
        walk_at "m go"
        by_cases hts : ts = []
        · rw [if_pos (by simpa using hts)]
          walk_at "m go"
          refine ⟨keepsOf F5, .inl ⟨rd_after (i := i + 1) ?_, rfl⟩⟩
          rw [rd_step hc hf, rdStep, if_neg h47, if_pos hts]
        · rw [if_neg (by simpa using hts)]
          walk_at "m go"
          rw [show (S [c] == Str.ofString "~") = (c == 126) from by rw [litT, S_beq1]]
          by_cases h126 : c = 126
          · rw [if_pos (by simpa using h126)]
            walk_at "m go"
            rename_i tk6 h6 F6 N6
            refine tok_end F6 (News.dropN N6) ⟨fun z h1 h2 => ?_, rfl⟩ (fun p hp => .tail _ hp) (by rw [rd_step hc hf, rdStep, if_neg h47, if_neg hts, if_pos h126]) hvs (fun p hp => ⟨Nat.le_succ_of_le (h7s p hp).1, (h7s p hp).2⟩) (by omega) (fun _ => hts)
            simp only [if_neg h1, if_neg h2]
          · rw [if_neg (by simpa using h126)]
            walk_at "m go"
            obtain ⟨tl, htl⟩ := hvs.last hts
            refine getLastL (N5 _ (.tail _ (.head _))).1 htl ?_
            walk_at "m go"
            refine addS (by have := lastD_len h7s; show _ + 1 ≤ _; omega) ?_
            intro t7 k7
            dsimp only
            walk_at "m go"
            refine setLastL F5 (News.dropN N5) hro (fun e => hts (by rw [e] at hvl; exact List.length_eq_zero_iff.mp hvl.symm)) ?_
            intro h6 F6 N6
            dsimp only
            walk_at "m go"
            refine tok_end F6 N6 ⟨fun z h1 h2 => ?_, rfl⟩ (fun p hp => .tail _ hp) (by rw [rd_step hc hf, rdStep, if_neg h47, if_neg hts, if_neg h126]) (hvs.setLast hts) (bd_last h7s (h7 c (List.mem_of_getElem? hc))) (by rw [len_last _ _ hts]; omega) (fun h => nomatch h)
            simp only [if_neg h1, if_neg h2]
    · walk_at "m go"
      have hts := hne rfl
      obtain ⟨tl, htl⟩ := hvs.last hts
      rw [show (S [c] != Str.ofString "0") = (c != 48) from by rw [lit0]; unfold bne; rw [S_beq1]]
      by_cases h48 : c = 48
      · rw [if_neg (by simp [h48])]
        walk_at "m go"
        refine getLastL (N4 _ (.head _)).1 htl ?_
        walk_at "m go"
        rw [show (S [c] == Str.ofString "0") = true from by rw [lit0, S_beq1, h48]; rfl]
        walk_at "m go"
        rw [litT]
        refine addS (by have := lastD_len h7s; show _ + 1 ≤ _; omega) ?_
        intro t7 k7
        dsimp only
        walk_at "m go"
        refine setLastL F4 N4 hro (fun e => hts (by rw [e] at hvl; exact List.length_eq_zero_iff.mp hvl.symm)) ?_
        intro h6 F6 N6
        dsimp only
        walk_at "m go"
        rename_i tk8 h8 F8 N8
        refine tok_end F8 N8 ⟨fun z h1 h2 => ?_, rfl⟩ (fun p hp => .tail _ hp) (by rw [rd_step hc hf, rdStep, if_neg (by omega), if_pos h48]) (hvs.setLast hts) (bd_last h7s (by decide)) (by rw [len_last _ _ hts]; omega) (fun h => nomatch h)
        simp only [if_neg h1, if_neg h2]
      · rw [if_pos (by simpa using h48)]
        walk_at "m go"
        rw [show (S [c] != Str.ofString "1") = (c != 49) from by rw [lit1]; unfold bne; rw [S_beq1]]
        by_cases h49 : c = 49
        · rw [if_neg (by simp [h49])]
          walk_at "m go"
          refine getLastL (N4 _ (.head _)).1 htl ?_
          walk_at "m go"
          rw [show (S [c] == Str.ofString "0") = false from by rw [lit0, S_beq1, h49]; rfl]
          walk_at "m go"
          rw [litS]
          refine addS (by have := lastD_len h7s; show _ + 1 ≤ _; omega) ?_
          intro t7 k7
          dsimp only
          walk_at "m go"
          refine setLastL F4 N4 hro (fun e => hts (by rw [e] at hvl; exact List.length_eq_zero_iff.mp hvl.symm)) ?_
          intro h6 F6 N6
          dsimp only
          walk_at "m go"
          rename_i tk8 h8 F8 N8
          refine tok_end F8 N8 ⟨fun z h1 h2 => ?_, rfl⟩ (fun p hp => .tail _ hp) (by rw [rd_step hc hf, rdStep, if_neg (by omega), if_neg h48]) (hvs.setLast hts) (bd_last h7s (by decide)) (by rw [len_last _ _ hts]; omega) (fun h => nomatch h)
          simp only [if_neg h1, if_neg h2]
        · rw [if_pos (by simpa using h49)]
          walk_at "m go"
          refine ⟨keepsOf F4, .inl ⟨rd_after (i := i + 1) ?_, rfl⟩⟩
          rw [rd_step hc hf, rdStep, if_pos ⟨h48, h49⟩]
end
end Mine

end
section
open PySem PySem.W PySem.Calls PyProof.Rows
open PySem.Builtin PySem.Builtin.Str
set_option Elab.async false
set_option maxRecDepth 100000
set_option maxHeartbeats 8000000
namespace Mine
theorem fill_it5 (P : (OpenLaw → (Params → Frag) → Prop)) (h : P PySem.Challenge.rw_jh0011_01 hd.heap_39) : P PySem.Challenge.rw_jh0011_01 hd.heap_39 := by
  k_fill
  exact h
local macro_rules | `(tactic| walk_at "m go") => `(tactic| repeat (first | ((with_reducible show wpAny _ _ _ _ _ _); (fail_if_success (with_reducible show wpAny _ _ (PySem.exec (Stmt.For _ _ _ _ _) _) _ _ _)); walk1; (try dsimp only)) | (with_reducible refine ite_tt ?_) | (with_reducible refine ite_ff ?_)))
theorem map3 {x y u : Str} {v tv : Value} {m₁ m₀ : Str → Option Value} (ht : m₁ y = some tv) (hm : ∀ z, z ≠ x → z ≠ y → z ≠ u → m₁ z = m₀ z) :
    (fun z => if z = x then some v else m₁ z) = fun z => if z = x then some v else if z = y then some tv else if z = u then m₁ u else m₀ z := by
  funext z
  by_cases h1 : z = x
  · simp only [if_pos h1]
  · simp only [if_neg h1]
    by_cases h2 : z = y
    · subst h2; simp only [if_true]; exact ht
    · simp only [if_neg h2]
      by_cases h3 : z = u
      · subst h3; simp only [if_true]
      · simp only [if_neg h3]; exact hm z h1 h2 h3
theorem done3 {x y u : Str} {tv : Value} {m₁ m₀ : Str → Option Value} (ht : m₁ y = some tv) (hm : ∀ z, z ≠ x → z ≠ y → z ≠ u → m₁ z = m₀ z) :
    m₁ = fun z => if z = x then m₁ x else if z = y then some tv else if z = u then m₁ u else m₀ z := by
  funext z
  by_cases h1 : z = x
  · subst h1; simp only [if_true]
  · simp only [if_neg h1]
    by_cases h2 : z = y
    · subst h2; simp only [if_true]; exact ht
    · simp only [if_neg h2]
      by_cases h3 : z = u
      · subst h3; simp only [if_true]
      · simp only [if_neg h3]; exact hm z h1 h2 h3
def txtJ (a : Addr) (ls : List (List Nat)) (i : Nat) (m : Str → Option Value) (nx : List (Addr × Obj)) : Prop :=
  nx = [] ∧ (∃ t, m (Str.ofString "text") = some (.str (S (pathOf (ls.take i))) t)) ∧ ∀ z, z ≠ Str.ofString "token" → z ≠ Str.ofString "text" → z ≠ Str.ofString "sign" → m z = List.lookup z [(Str.ofString "tokens", Value.ref a)].reverse
def txtJ2 (m₀ : Str → Option Value) (own : List (Addr × Obj)) (pre tok : List Nat) (i : Nat) (m : Str → Option Value) (nx : List (Addr × Obj)) : Prop :=
  nx = own ∧ (∃ t, m (Str.ofString "text") = some (.str (S (pre ++ esc (tok.take i))) t)) ∧ ∀ z, z ≠ Str.ofString "sign" → z ≠ Str.ofString "text" → m z = m₀ z
theorem pathOf_take_len (ls : List (List Nat)) (i : Nat) : (pathOf (ls.take i)).length ≤ (pathOf ls).length := by
  conv => rhs; rw [← List.take_append_drop i ls, pathOf_append]
  rw [List.length_append]; omega
theorem esc_take_len (l : List Nat) (i : Nat) : (esc (l.take i)).length ≤ (esc l).length := by
  conv => rhs; rw [← List.take_append_drop i l, esc_append]
  rw [List.length_append]; omega
theorem pathOf_step {ls : List (List Nat)} {i : Nat} {l : List Nat} (h : ls[i]? = some l) : pathOf (ls.take (i + 1)) = pathOf (ls.take i) ++ 47 :: esc l := by
  rw [List.take_add_one, h, pathOf_append]; simp [pathOf]
theorem esc_step {l : List Nat} {i c : Nat} (h : l[i]? = some c) : esc (l.take (i + 1)) = esc (l.take i) ++ escC c := by
  rw [List.take_add_one, h, esc_append]; simp [esc]
section
variable {w : World} {A : Around} {E : Value → Shared → Prop} {s : Shared} {loose : List Str} {mg mb : Str → Option Value}
theorem text_spec {a : Addr} {vs : List Value} {ls : List (List Nat)} (X : (hd.heap_39 w.params).In s.heap) (T : TopRead Mine.view0 loose mg mb s.heap) (hd : A.depth < recursionLimit) (hh : A.handled = none) (ha : s.heap.IsList a vs.toArray) (hvs : LS vs ls) (hl : (pathOf ls).length ≤ 100000) :
    wpAny (model prog w) A (call (.ref 253) [.ref a]) (fun v s' => (∃ t, v = .str (S (pathOf ls)) t) ∧ Keeps s s') E s := by
  refine' enterK (binds := [(Str.ofString "tokens", .ref a)]) X T.nolimit ?h1 ?h2 hd ?h3 ?h4 ?_ ?h5 ?h6 ?h7 ?h8
  case h1 => k_is
  case h2 => k_is
  case h3 => exact BindsTo.of_eq rfl
  case h4 => exact locs rfl
  case h5 => decide
  case h6 => exact rfl
  case h7 => exact rfl
  case h8 => exact rfl
  intro h₁ F N
  refine wpAny_execs_cons ?_
  walk_at "m go"
  rename_i h2 F2 N2
  refine For_invV s.heap rfl rfl ?_ (fun _ => rfl)
  walk1
  refine iter_list (txtJ a ls) hh ha F2 N2 ⟨rfl, ⟨_, by rw [litE]; rfl⟩, fun z h1 h2 h3 => by simp only [if_neg h2]⟩ ?tu ?dn
  case dn =>
    rintro m₁ nx h tk ⟨rfl, ⟨t, ht⟩, hm⟩ F4 N4
    rw [done3 ht hm] at F4
    dsimp only
    walk_at "m go"
    rw [hvs.length, List.take_length]
    exact ⟨⟨_, rfl⟩, keepsOf F4⟩
  case tu =>
    rintro i v m₁ nx h tk own hv _ ho ⟨rfl, ⟨t, ht⟩, hm⟩ F4 N4
    rw [map3 ht hm] at F4
    have hil : i < ls.length := by rw [← hvs.length]; exact (List.getElem?_eq_some_iff.mp hv).1
    have hls : ls[i]? = some ls[i] := List.getElem?_eq_getElem hil
    obtain ⟨tv, htv⟩ := hvs.get hls
    rw [hv] at htv
    obtain rfl := Option.some.inj htv
    rw [List.nil_append] at N4
    have hb := pathOf_take_len ls (i + 1)
    rw [pathOf_step hls, List.length_append, List.length_cons] at hb
    dsimp only
    walk_at "m go"
    rw [litS]
    refine addS (by show _ + 1 ≤ _; omega) ?_
    intro t5 k5
    dsimp only
    walk_at "m go"
    rename_i h6 F6 N6
    refine For_invV s.heap rfl rfl ?_ (fun _ => rfl)
    walk1
    refine iter_text (txtJ2 _ own (pathOf (ls.take i) ++ [47]) ls[i]) hh F6 N6 ⟨rfl, ⟨t5, by rw [List.take_zero, show esc [] = [] from rfl, List.append_nil]; rfl⟩, fun z h1 h2 => rfl⟩ ?tu ?dn
    case dn =>
      rintro m₂ nx h tk ⟨rfl, ⟨t, ht⟩, hm2⟩ F7 N7
      dsimp only
      walk_at "m go"
      rw [List.take_length] at ht
      refine InvEndN.intro F7 N7 ⟨rfl, ⟨t, ?_⟩, fun z h1 h2 h3 => ?_⟩ rfl (fun _ h => nomatch h) (fun p hp => hp)
      · rw [pathOf_step hls, ht, List.append_assoc]; rfl
      · rw [hm2 z h3 h2]
        simp only [if_neg h1, if_neg h2, if_neg h3]
    case tu =>
      rintro j c u m₂ nx h tk own2 hc _ ho2 ⟨rfl, ⟨t, ht⟩, hm2⟩ F7 N7
      have e7 : (fun y => if y = Str.ofString "sign" then some (Value.str (S [c]) u) else m₂ y) = fun y => if y = Str.ofString "sign" then some (Value.str (S [c]) u) else if y = Str.ofString "text" then some (.str (S (pathOf (ls.take i) ++ [47] ++ esc (ls[i].take j))) t) else (_ : Str → Option Value) y := map_one ht hm2
      rw [e7] at F7
      have hb2 := esc_take_len ls[i] (j + 1)
      rw [esc_step hc, List.length_append] at hb2
      dsimp only
      walk_at "m go"
      rw [show (S [c] == Str.ofString "~") = (c == 126) from by rw [litT, S_beq1]]
      by_cases h126 : c = 126
      · rw [if_pos (by simpa using h126)]
        have hesc : escC c = [126, 48] := by rw [h126]; rfl
        rw [hesc] at hb2
        walk_at "m go"
        rw [litT0]
        refine addS (by simp at hb2 ⊢; omega) ?_
        intro t9 k9
        dsimp only
        walk_at "m go"
        rename_i h8 F8 N8
        refine InvEndN.intro F8 N8 ⟨rfl, ⟨t9, ?_⟩, fun z h1 h2 => ?_⟩ rfl (fun p hp => List.mem_append.mpr (.inl hp)) (fun p hp => List.mem_append.mpr (.inr hp))
        · rw [esc_step hc, ← List.append_assoc, hesc]; rfl
        · simp only [if_neg h1, if_neg h2]
      · rw [if_neg (by simpa using h126)]
        walk_at "m go"
        rw [show (S [c] == S [47]) = (c == 47) from S_beq1 ..]
        by_cases h47 : c = 47
        · rw [if_pos (by simpa using h47)]
          have hesc : escC c = [126, 49] := by rw [h47]; rfl
          rw [hesc] at hb2
          walk_at "m go"
          rw [litT1]
          refine addS (by simp at hb2 ⊢; omega) ?_
          intro t9 k9
          dsimp only
          walk_at "m go"
          rename_i h8 F8 N8
          refine InvEndN.intro F8 N8 ⟨rfl, ⟨t9, ?_⟩, fun z h1 h2 => ?_⟩ rfl (fun p hp => List.mem_append.mpr (.inl hp)) (fun p hp => List.mem_append.mpr (.inr hp))
          · rw [esc_step hc, ← List.append_assoc, hesc]; rfl
          · simp only [if_neg h1, if_neg h2]
        · rw [if_neg (by simpa using h47)]
          have hesc : escC c = [c] := by unfold escC; rw [if_neg h126, if_neg h47]
          rw [hesc] at hb2
          walk_at "m go"
          refine addS (by simp at hb2 ⊢; omega) ?_
          intro t9 k9
          dsimp only
          walk_at "m go"
          rename_i h8 F8 N8
          refine InvEndN.intro F8 N8 ⟨rfl, ⟨t9, ?_⟩, fun z h1 h2 => ?_⟩ rfl (fun p hp => List.mem_append.mpr (.inl hp)) (fun p hp => List.mem_append.mpr (.inr hp))
          · rw [esc_step hc, ← List.append_assoc, hesc]; rfl
          · simp only [if_neg h1, if_neg h2]
end
end Mine

end
section
open PySem PySem.W PySem.Calls PyProof.Rows
open PySem.Builtin PySem.Builtin.Str
set_option Elab.async false
set_option maxRecDepth 100000
set_option maxHeartbeats 8000000
namespace Mine
theorem fill_it6 (P : (OpenLaw → (Params → Frag) → Prop)) (h : P PySem.Challenge.rw_jh0011_01 hd.heap_39) : P PySem.Challenge.rw_jh0011_01 hd.heap_39 := by
  k_fill
  exact h
local macro_rules | `(tactic| walk_at "m go") => `(tactic| repeat (first | ((with_reducible show wpAny _ _ _ _ _ _); (fail_if_success (with_reducible show wpAny _ _ (PySem.exec (Stmt.For _ _ _ _ _) _) _ _ _)); walk1; (try dsimp only)) | (with_reducible refine ite_tt ?_) | (with_reducible refine ite_ff ?_)))
section
variable {w : World} {A : Around} {E : Value → Shared → Prop} {s : Shared} {loose : List Str} {mg mb : Str → Option Value}
theorem lenL {a : Addr} {vs : List Value} {ls : List (List Nat)} {Q : Value → Shared → Prop} (ha : s.heap.IsList a vs.toArray) (hvs : LS vs ls) (hl : ls.length ≤ 100000) (h : Q (.int (ls.length : Nat) (s.toks + 1)) { s with toks := s.toks + 1 + 1 }) :
    wpAny (model prog w) A (call (.builtin "len") [.ref a]) Q E s := by
  have e : vs.toArray.size = ls.length := by simp [hvs.length]
  refine call_len_list ha (by omega) ?_
  rw [e]; exact h
theorem getL {a : Addr} {vs : List Value} {k : Int} {u : Tok} {v : Value} {value slice : Expr} {Q : Value → Shared → Prop} (ha : s.heap.IsList a vs.toArray) (h0 : 0 ≤ k) (hk : k < 2 ^ 63) (hv : vs[k.toNat]? = some v) (h : Q v s)
    (hs : subscripted slice false (.ref a) (.int k u) = operate [.ref a, .int k u] (getItem (.ref a) (.int k u)) := by with_unfolding_all rfl) :
    wpAny (model prog w) A (subscriptTail value slice (.ref a) (.int k u)) Q E s :=
  tail_any ha.typeIs slot_list_getitem.lookup (wpAny_getItem_list ha h0 hk (by simpa using hv) h) hs
def begJ (a b : Addr) (ls ms : List (List Nat)) (i : Nat) (m : Str → Option Value) (nx : List (Addr × Obj)) : Prop :=
  nx = [] ∧ ls.take i = ms.take i ∧ ∀ z, z ≠ Str.ofString "place" → z ≠ Str.ofString "token" → m z = List.lookup z [(Str.ofString "row", Value.ref a), (Str.ofString "start", Value.ref b)].reverse
theorem mapB {x y : Str} {v u : Value} {m₁ m₀ : Str → Option Value} (hm : ∀ z, z ≠ y → z ≠ x → m₁ z = m₀ z) : (fun z => if z = x then some v else if z = y then some u else m₁ z) = fun z => if z = x then some v else if z = y then some u else m₀ z := by
  funext z
  by_cases h1 : z = x
  · simp only [if_pos h1]
  · simp only [if_neg h1]
    by_cases h2 : z = y
    · simp only [if_pos h2]
    · simp only [if_neg h2]; exact hm z h2 h1
theorem begins_spec {a b : Addr} {vs us : List Value} {ls ms : List (List Nat)} (X : (hd.heap_39 w.params).In s.heap) (T : TopRead Mine.view0 loose mg mb s.heap) (hd : A.depth < recursionLimit) (hh : A.handled = none) (ha : s.heap.IsList a vs.toArray) (hvs : LS vs ls) (hb : s.heap.IsList b us.toArray) (hus : LS us ms) (hl : ls.length ≤ 100000) (hm : ms.length ≤ 100000) :
    wpAny (model prog w) A (call (.ref 267) [.ref a, .ref b]) (fun v s' => v = .bool (decide (ls.take ms.length = ms)) ∧ Keeps s s') E s := by
  refine' enterK (binds := [(Str.ofString "row", .ref a), (Str.ofString "start", .ref b)]) X T.nolimit ?h1 ?h2 hd ?h3 ?h4 ?_ ?h5 ?h6 ?h7 ?h8
  case h1 => k_is
  case h2 => k_is
  case h3 => exact BindsTo.of_eq rfl
  case h4 => exact locs rfl
  case h5 => decide
  case h6 => exact rfl
  case h7 => exact rfl
  case h8 => exact rfl
  intro h₁ F N
  refine wpAny_execs_cons ?_
  walk_at "m go"
  refine lenL (hb.at fun o e => F.keep b o e) hus hm ?_
  dsimp only
  walk_at "m go"
  refine lenL (ha.at fun o e => F.keep a o e) hvs hl ?_
  dsimp only
  walk_at "m go"
  by_cases hlt : ls.length < ms.length
  · rw [if_pos (by simpa using hlt)]
    walk_at "m go"
    refine ⟨?_, keepsOf F⟩
    rw [decide_eq_false]
    intro e
    have := congrArg List.length e
    rw [List.length_take] at this
    omega
  · rw [if_neg (by simpa using hlt)]
    walk_at "m go"
    refine For_pair3 s.heap hh rfl rfl rfl ?_ (fun _ => rfl)
    walk_at "m go"
    refine call_enum_list (K := ItemKind.str) (as := ms.map S) hh hb (StrsAre.areOf hus) F N fun h2 e2 F2 N2 P2 => ?_
    dsimp only
    refine PairSrcL.at P2 _ rfl _ _ _ _ (begJ a b ls ms) ⟨rfl, by simp, fun _ _ _ => rfl⟩ ?tu ?dn
    case dn =>
      rintro h' tk m' news' F3 N3 _ ⟨rfl, he, hm'⟩
      rw [List.length_map, List.take_length] at he
      dsimp only
      walk_at "m go"
      refine ⟨?_, keepsOf F3⟩
      rw [decide_eq_true he]
    case tu =>
      rintro i x t v m₁ nx s₁ own ⟨h, tk, rfl⟩ hx hv ⟨rfl, he, hm'⟩ _ _ F3 N3
      obtain ⟨u, rfl⟩ := hv
      rw [mapB hm'] at F3
      rw [List.getElem?_map] at hx
      obtain ⟨y, hy, rfl⟩ := Option.map_eq_some_iff.mp hx
      have hi : i < ms.length := (List.getElem?_eq_some_iff.mp hy).1
      have hil : i < ls.length := by omega
      obtain ⟨tv, htv⟩ := hvs.get (List.getElem?_eq_getElem hil)
      dsimp only at F3 N3 ⊢
      refine wpAny_execs_cons ?_
      walk_at "m go"
      rw [show (List.map S ls).getD ((i : Int)).toNat Str.empty = S ls[i] from by rw [Int.toNat_natCast]; simp [List.getD, hil]]
      rw [show (S ls[i] != S y) = !decide (ls[i] = y) from by unfold bne; rw [S_beq]; congr 1; rw [Bool.eq_iff_iff]; simp]
      by_cases hq : ls[i] = y
      · rw [if_neg (by simp [hq])]
        walk_at "m go"
        refine LoopStep2.intro F3 N3 rfl ⟨rfl, ?_, fun z h1 h2 => ?_⟩
        · rw [List.take_add_one, List.take_add_one, he, List.getElem?_eq_getElem hil, hy, hq]
        · simp only [if_neg h1, if_neg h2]
      · rw [if_pos (by simp [hq])]
        walk_at "m go"
        refine ⟨?_, keepsOf F3⟩
        rw [decide_eq_false]
        intro e
        apply hq
        have e2 := congrArg (·[i]?) e
        simp only [List.getElem?_take, if_pos hi, hy, List.getElem?_eq_getElem hil] at e2
        exact Option.some.inj e2
end
end Mine

end
section
open PySem PySem.W PySem.Calls PyProof.Rows
open PySem.Builtin PySem.Builtin.Str
set_option Elab.async false
set_option maxRecDepth 100000
set_option maxHeartbeats 8000000
namespace Mine
theorem frK {h₀ h h' : Heap} {L : Addr} {m : Str → Option Value} (F : Fr h₀ L h m) (hk : ∀ b o, h.get? b = some o → h'.get? b = some o) : Fr h₀ L h' m :=
  ⟨F.ns.keeps hk, fun b o e => hk b o (F.keep b o e), F.above⟩
theorem newsK {h₀ h h' : Heap} {L : Addr} {news : List (Addr × Obj)} (N : News h₀ L h news) (hk : ∀ b o, h.get? b = some o → h'.get? b = some o) : News h₀ L h' news :=
  fun p hp => ⟨hk _ _ (N p hp).1, (N p hp).2⟩
/-- a new object enters the ledger -/
theorem newsAdd {h₀ h h' : Heap} {L D : Addr} {o : Obj} {m : Str → Option Value} {news : List (Addr × Obj)} (F : Fr h₀ L h m) (N : News h₀ L h' news) (hD : h.get? D = none) (ho : h'.get? D = some o) : News h₀ L h' ((D, o) :: news) := by
  intro p hp
  rcases List.mem_cons.mp hp with rfl | hp
  · refine ⟨ho, ?_, ?_⟩
    · rintro rfl
      obtain ⟨oL, _, _, hL, _⟩ := F.ns
      rw [hD] at hL; cases hL
    · cases q : h₀.get? D with
      | none => rfl
      | some o' => rw [F.keep _ _ q] at hD; cases hD
  · exact N p hp
section
variable {w : World} {A : Around} {E : Value → Shared → Prop} {s : Shared} {loose : List Str} {mg mb : Str → Option Value}
theorem useK {M : Model} {t : Sem Value} {P : Value → Shared → Prop} {Q : Value → Shared → Prop} (spec : wpAny M A t (fun v s' => P v s' ∧ Keeps s s') E s) (ht : 0 < s.toks)
    (h : ∀ v h' tk', P v ⟨h', s.gens, s.drawn, tk', s.os⟩ → (∀ b o, s.heap.get? b = some o → h'.get? b = some o) → 0 < tk' → Q v ⟨h', s.gens, s.drawn, tk', s.os⟩) : wpAny M A t Q E s := by
  refine wpAny_with_toks (n := 1) ht (wpAny_mono spec (fun v s' hp htk => ?_) fun _ _ x _ => x)
  obtain ⟨hp, h', tk', rfl, hk⟩ := hp
  exact h v h' tk' hp hk htk
theorem nameG {env : Env} {x : Str} {pos : Pos} {v : Value} {Q : Value → Shared → Prop} (X : (hd.heap_39 w.params).In s.heap) (T : TopRead Mine.view0 loose mg mb s.heap) (e : nsIn (hd.heap_39 w.params) mainGlobals x = some (some v)) (h : Q v s)
    (hk : env.scope.kind = .function) (hx : env.kindOf x = some .globalImplicit) (hg : env.globals = mainGlobals) (hd : (x == ("__debug__" : Str)) = false) :
    wpAny (model prog w) A (eval (.Name x pos) env) Q E s :=
  Name_function_global hk hx (loadGlobal_global (mg := mg) (by rw [hg]; exact T.g) (mg_of X T.g e) h) hd
theorem nameL {env : Env} {x : Str} {pos : Pos} {v : Value} {m : Str → Option Value} {Q : Value → Shared → Prop} (hn : s.heap.Ns env.locals m) (hv : m x = some v) (h : Q v s)
    (hk : env.scope.kind = .function) (hl : env.kindOf x = some .local) (hd : (x == ("__debug__" : Str)) = false) :
    wpAny (model prog w) A (eval (.Name x pos) env) Q E s := wpAny_Name (wpAny_loadName_local hk hl hn hv h) hd
theorem nameB {env : Env} {x : Str} {pos : Pos} {v : Value} {Q : Value → Shared → Prop} (X : (hd.heap_39 w.params).In s.heap) (T : TopRead Mine.view0 loose mg mb s.heap) (e : nsIn (hd.heap_39 w.params) mainGlobals x = some none) (hv : bootBuiltins x = some v) (hn : x ≠ "__name__") (h : Q v s)
    (hk : env.scope.kind = .function) (hx : env.kindOf x = some .globalImplicit) (hg : env.globals = mainGlobals) (hb : env.builtins = builtinsNs) (hd : (x == ("__debug__" : Str)) = false) :
    wpAny (model prog w) A (eval (.Name x pos) env) Q E s :=
  Name_function_global hk hx (loadGlobal_builtin (mg := mg) (mb := mb) (by rw [hg]; exact T.g) (mg_none_of X T.g e) (by rw [hb]; exact T.b) ((T.builtins x hn).trans hv) h) hd
theorem paired_LS {f : List Nat → List Nat} : ∀ {ls : List (List Nat)} {vs us : List Value}, LS vs ls → Paired (fun v u => ∃ l t t', v = Value.str (S l) t ∧ u = Value.str (S (f l)) t') vs us → LS us (ls.map f)
  | [], vs, us, hl, hp => by
    obtain rfl : vs = [] := List.length_eq_zero_iff.mp hl.length
    cases hp
    exact LS.nil
  | l :: ls, vs, us, hl, hp => by
    cases hl with
    | cons y t h =>
      cases hp with
      | cons hf hr =>
        obtain ⟨l', t1, t2, e1, rfl⟩ := hf
        injection e1 with e1
        obtain rfl := S_inj e1
        exact LS.cons (paired_LS h hr)
theorem keepsRefl (s : Shared) : Keeps s s := ⟨s.heap, s.toks, rfl, fun _ _ e => e⟩
/-- a comprehension over a list of texts, its element a text made of the item -/
theorem compS {env : Env} {e iter : Expr} {x y : Str} {px py : Pos} {scope : Scope} {pos spos : Pos} {Q : Flow → Shared → Prop} {h₀ : Heap} {f : List Nat → List Nat}
    (hsw : swapsWith (.ListComp e [⟨.Name x px, iter, [], 0⟩] scope pos) (some (.Name y py)) spos.line env = pure true)
    (hfree : ∀ z ∈ scope.names, z.2 ≠ .free) (hcell : ∀ z ∈ scope.names, z.2 ≠ .cell) (hkind : scope.kind = .function)
    (hnames : ∀ z ∈ scope.names, z.2 = .local → scope.names.lookup z.1 = some .local) (hx : scope.names.lookup x = some .local)
    (hy : env.kindOf y = some .local) (hp : (env.scope.kind == .class || (env.scope.kind == .module && env.locals != env.globals)) = false) (hh : A.handled = none)
    (h : wpAny (model prog w) A (eval iter env) (fun xv s₁ => ∃ a vs ls m news, xv = .ref a ∧ s₁.heap.IsList a vs.toArray ∧ LS vs ls ∧ vs.length ≤ sizeLine ∧ Fr h₀ env.locals s₁.heap m ∧ News h₀ env.locals s₁.heap news ∧
      (∀ C l t s₃ m₃ E', l ∈ ls → s₃.heap.Ns C m₃ → m₃ x = some (.str (S l) t) → (∀ b o, s₁.heap.get? b = some o → s₃.heap.get? b = some o) → s₁.toks ≤ s₃.toks →
        wpAny (model prog w) A (eval e (compEnv scope C env)) (fun v s₄ => (∃ t', v = .str (S (f l)) t') ∧ Keeps s₃ s₄) E' s₃) ∧
      (∀ D h' tk ys c, Fr h₀ env.locals h' (fun z => if z = y then some (.ref D) else m z) → News h₀ env.locals h' ((D, listOf ys.toArray c) :: news) → LS ys (ls.map f) → s₁.heap.get? D = none →
        (∀ b o, b ≠ env.locals → s₁.heap.get? b = some o → h'.get? b = some o) → Q .next ⟨h', s₁.gens, s₁.drawn, tk, s₁.os⟩)) E s)
    (hs : ∀ x, foldedSetIterable iter env x = pure x) :
    wpAny (model prog w) A (exec (.Assign [.Name y py] (.ListComp e [⟨.Name x px, iter, [], 0⟩] scope pos) spos) env) Q E s := by
  refine wpAny_Assign_ListComp_walk (fun _ => true) (fun v u => ∃ l t t', v = .str (S l) t ∧ u = .str (S (f l)) t') hsw hfree hcell hkind hnames hx hy hp (wpAny_mono h (fun xv s₁ h₁ => ?_) fun _ _ x => x) hs
  obtain ⟨a, vs, ls, m, news, rfl, hl, hvs, hsz, F, N, elt, hQ⟩ := h₁
  refine wpAny_pyIter_list hl ?_
  obtain ⟨ol, hol, _⟩ := id hl
  have hlt : a < s₁.heap.objs.size := Heap.lt_size hol
  have hsize : vs.toArray.size = vs.length := by simp
  have W := Walks.list (prog := prog) (w := w) hh s₁.heap.objs.size a (Nat.ne_of_lt hlt) vs.toArray
  rw [hsize] at W
  have hL : env.locals < s₁.heap.objs.size := F.ns.lt
  have old : ∀ b o, s₁.heap.get? b = some o → b ∉ [s₁.heap.objs.size] := fun b o e hm => absurd (Heap.lt_size e) (by rw [List.mem_singleton.mp hm]; exact Nat.lt_irrefl _)
  refine ⟨_, _, _, vs.length, _, _, m, rfl, W, hsz, ⟨⟨_, Heap.get?_push_size _ rfl, rfl, rfl⟩, hl.at fun o e => Heap.get?_push_of_some _ e⟩, ?_, ?_, (F.push _).ns, ⟨?_, ?_⟩, ?_⟩
  · intro b hb
    rw [Heap.size_push]
    rcases List.mem_cons.mp hb with rfl | hb
    · exact Nat.lt_succ_self _
    · rw [List.mem_singleton.mp hb]; exact Nat.lt_succ_of_lt hlt
  · intro hm
    rw [List.mem_singleton.mp hm] at hL
    exact Nat.lt_irrefl _ hL
  · intro C i v s₃ m₃ E' _ _ _ _ _
    exact wpAny_pure ⟨rfl, keepsRefl _⟩
  · intro C i v s₃ m₃ E' hv _ hn hm hk htk
    have hv' : vs[i]? = some v := by simpa using hv
    have hi : i < ls.length := by rw [← hvs.length]; exact (List.getElem?_eq_some_iff.mp hv').1
    obtain ⟨t, ht⟩ := hvs.get (List.getElem?_eq_getElem hi)
    rw [hv'] at ht
    obtain rfl := Option.some.inj ht
    refine wpAny_mono (elt C ls[i] t s₃ m₃ E' (List.getElem_mem hi) hn hm (fun b o e => hk b o (old b o e) (Heap.get?_push_of_some _ e)) htk) (fun u s₄ q => ?_) fun _ _ x => x
    obtain ⟨⟨t', rfl⟩, hK⟩ := q
    exact ⟨⟨_, _, _, rfl, rfl⟩, hK⟩
  · intro D h' tk ys vs' hD hlD hplD hlen hP hF hNs hkeep
    have ev : vs' = vs := by
      apply List.ext_getElem?
      intro j
      by_cases hj : j < vs'.length
      · have := hP j vs'[j] (List.getElem?_eq_getElem hj)
        rw [List.getElem?_eq_getElem hj]
        simpa using this.symm
      · rw [List.getElem?_eq_none (by omega), List.getElem?_eq_none (by omega)]
    subst ev
    rw [show vs'.filter (fun _ => true) = vs' from List.filter_eq_self.mpr fun _ _ => rfl] at hF
    obtain ⟨c, hc⟩ := hplD
    have hDn : s₁.heap.get? D = none := by
      cases q : s₁.heap.get? D with
      | none => rfl
      | some o => rw [Heap.get?_push_of_some _ q] at hD; cases hD
    have kp : ∀ b o, b ≠ env.locals → s₁.heap.get? b = some o → h'.get? b = some o := fun b o hb e => hkeep b o hb (old b o e) (Heap.get?_push_of_some _ e)
    have F' : Fr h₀ env.locals h' (fun z => if z = y then some (.ref D) else m z) := ⟨hNs, fun b o e => kp b o (fun hb => absurd (Nat.lt_of_lt_of_le (Heap.lt_size e) F.above) (hb ▸ Nat.lt_irrefl _)) (F.keep b o e), F.above⟩
    have N' : News h₀ env.locals h' news := fun p hp => ⟨kp _ _ (N p hp).2.1 (N p hp).1, (N p hp).2⟩
    have ND : News h₀ env.locals h' ((D, listOf ys.toList.toArray c) :: news) := newsAdd F N' hDn (by rw [hc])
    exact hQ D h' tk ys.toList c F' ND (paired_LS hvs hF) hDn kp
end
end Mine

end
section
open PySem PySem.W PySem.Calls PyProof.Rows
open PySem.Builtin PySem.Builtin.Str
set_option Elab.async false
set_option maxRecDepth 100000
set_option maxHeartbeats 8000000
namespace Mine
theorem fill_it7 (P : (OpenLaw → (Params → Frag) → Prop)) (h : P PySem.Challenge.rw_jh0011_01 hd.heap_39) : P PySem.Challenge.rw_jh0011_01 hd.heap_39 := by
  k_fill
  exact h
local macro_rules | `(tactic| walk_at "m go") => `(tactic| repeat (first | ((with_reducible show wpAny _ _ _ _ _ _); (fail_if_success (with_reducible show wpAny _ _ (PySem.exec (Stmt.For _ _ _ _ _) _) _ _ _)); (fail_if_success (with_reducible show wpAny _ _ (PySem.call (Value.ref _) _ _) _ _ _)); (fail_if_success (with_reducible show wpAny _ _ (PySem.exec (Stmt.Assign _ (Expr.ListComp _ _ _ _) _) _) _ _ _)); walk1; (try dsimp only)) | (with_reducible refine And.intro (Frag.In.keeps (by assumption) (Fr.keep (by assumption))) ?_) | (with_reducible refine split_not ?_) | (with_reducible refine ite_tt ?_) | (with_reducible refine ite_ff ?_)))
local macro_rules | `(tactic| walk_at "execs cons") => `(tactic| (refine execs_consG ?hp ?_; (case hp => first | assumption | exact Nat.succ_pos _ | exact Nat.lt_of_lt_of_le (by assumption) (Nat.le_add_right _ _) | omega); intro tk' htk'))
local macro_rules | `(tactic| walk_at "execs nil") => `(tactic| refine wpAny_execs_nil ?_)
theorem enterC {K : Frag} {w : World} {A : Around} {R : Result → Shared → Prop} {s : Shared} {h₀ : Heap} {news : List (Addr × Obj)} {name qual : Str} {params : Arguments} {body : List Stmt} {scope : Scope} {dV kV doc pm cdv ct oc : Value} {an od : Option Addr} {osl : Array (Option Value)} {f : Addr} {args : List Value} {binds : List (Str × Value)}
    (X : K.In h₀) (hlim : h₀.NoLimit) (hk₀ : ∀ b o, h₀.get? b = some o → s.heap.get? b = some o) (hsz : h₀.objs.size ≤ s.heap.objs.size) (hN : ∀ p ∈ news, s.heap.get? p.1 = some p.2 ∧ h₀.get? p.1 = none)
    (ho : K.lookup f = some ⟨oc, od, .func (fnOf name qual params body scope dV kV doc pm an cdv ct), osl⟩) (hcd : codeIn K cdv qual = true) (hroom : A.depth < recursionLimit)
    (hbind : BindsTo s (fnOf name qual params body scope dV kV doc pm an cdv ct) ⟨args, []⟩ binds) (hloc : ∀ y ∈ binds, scope.names.lookup y.1 = some .local)
    (h : ∀ h₁, Fr h₀ s.heap.objs.size h₁ (fun y => binds.reverse.lookup y) → News h₀ s.heap.objs.size h₁ news →
      wpAny (model prog w) (A.deeper (envOf qual scope s.heap.objs.size f cdv)) (execs body (envOf qual scope s.heap.objs.size f cdv))
        (fun fl s' => R (.ok (.ret (match fl with | .ret v => v | _ => .none))) s') (fun _ _ => False) { s with heap := h₁, toks := s.toks + binds.length })
    (hcell : ∀ x ∈ scope.names, x.2 ≠ .cell) (hco : scope.isCoroutine = false) (hgen : scope.isGenerator = false) (hk : scope.kind = .function) :
    codeAny (model prog w) A (.call (.ref f) ⟨args, []⟩) R s := by
  refine codeAny_call_def (fd := fnOf name qual params body scope dV kV doc pm an cdv ct) (body := body) (binds := binds) hroom (hk₀ _ _ (X _ _ ho)) rfl (hlim.keeps hk₀) (codeRec_of (X.keeps hk₀) hcd) rfl hbind hcell hloc (fun h₁ hns hk₁ => ?_) hco hgen hk
  exact wpAny_mono (h h₁ ⟨hns, fun b o e => hk₁ b o (hk₀ b o e), hsz⟩ fun p hp => ⟨hk₁ _ _ (hN p hp).1, Nat.ne_of_lt (Heap.lt_size (hN p hp).1), (hN p hp).2⟩) (fun fl s' q => q) fun _ _ x => x.elim
/-- a pointer object: its parts -/
def NewPtr (h₀ h : Heap) (x : Addr) (ps : List (List Nat)) : Prop :=
  ∃ dx l vs c tk n hs, h.get? x = some (instObj 205 dx) ∧ h.get? dx = some (dictOf [⟨hs, .str (Str.ofString "parts") tk, .ref l⟩] n) ∧ h.get? l = some (listOf vs.toArray c) ∧ LS vs ps ∧
    h₀.get? x = none ∧ h₀.get? dx = none ∧ h₀.get? l = none
section
variable {w : World} {A : Around} {E : Value → Shared → Prop} {s : Shared} {loose : List Str} {mg mb : Str → Option Value}
theorem splitL_length (c : Nat) : ∀ l, (splitL c l).length ≤ l.length + 1
  | [] => by simp [splitL]
  | k :: r => by
    have ih := splitL_length c r
    rw [splitL]
    split
    · simp; exact ih
    · cases h : splitL c r with
      | nil => simp [consHead]
      | cons p q => rw [h] at ih; simp [consHead] at ih ⊢; omega
theorem splitL_mem_len (c : Nat) : ∀ (t p : List Nat), p ∈ splitL c t → p.length ≤ t.length
  | [], p, h => by rw [splitL] at h; rw [List.mem_singleton.mp h]; simp
  | k :: r, p, h => by
    have ih := splitL_mem_len c r
    rw [splitL] at h
    split at h
    · rcases List.mem_cons.mp h with rfl | h
      · simp
      · exact Nat.le_succ_of_le (ih p h)
    · cases hs : splitL c r with
      | nil => exact absurd hs (splitL_ne c r)
      | cons a q =>
        rw [hs] at h ih
        rcases List.mem_cons.mp h with rfl | h
        · have := ih a (List.mem_cons_self ..); simp; exact this
        · exact Nat.le_succ_of_le (ih p (List.mem_cons_of_mem _ h))
theorem LS_strValues : ∀ {sl : List (Str × Tok)} {ls : List (List Nat)}, sl.map (·.1) = ls.map S → LS (strValues sl) ls
  | [], [], _ => LS.nil
  | [], _ :: _, h => by cases h
  | _ :: _, [], h => by cases h
  | (y, t) :: sl, l :: ls, h => by
    rw [List.map_cons, List.map_cons] at h
    injection h with h1 h2
    dsimp only at h1
    subst h1
    exact LS.cons (LS_strValues h2)
theorem pop0 {h₀ : Heap} {L d : Addr} {m : Str → Option Value} {v : Value} {vs : List Value} {c : Nat} {u : Tok} {rest : List (Addr × Obj)} {Q : Value → Shared → Prop} (F : Fr h₀ L s.heap m) (N : News h₀ L s.heap ((d, listOf (v :: vs).toArray c) :: rest)) (hr : ∀ p ∈ rest, p.1 ≠ d) (hz : vs.length ≤ 1000000)
    (h : ∀ h', Fr h₀ L h' m → News h₀ L h' ((d, listOf vs.toArray (c + 1)) :: rest) → Q v { s with heap := h' }) : wpAny (model prog w) A (call (.builtin "list.pop") [.ref d, .int 0 u]) Q E s :=
  kl_popAt (k := 0) (p := []) (q := vs) (y := v) F N (by decide +kernel) (by unfold seqIndex?; simp) rfl (Upd.head hr) (by simp only [List.length_cons, sizeLine_eq]; omega) h
theorem ptr_spec {l : List Nat} {t : Tok} (X : (hd.heap_39 w.params).In s.heap) (T : TopRead Mine.view0 loose mg mb s.heap) (hdp : A.depth + 5 < recursionLimit) (hu : A.units + 100 < cLine) (hh : A.handled = none) (ht : 0 < s.toks) (hl : l.length ≤ 100000) (hv : Valid l) :
    wpAny (model prog w) A (call (.ref 205) [.str (S l) t]) (fun v s' => (∃ x, v = .ref x ∧ NewPtr s.heap s'.heap x (toksOf l)) ∧ Keeps s s') E s := by
  refine wpAny_call ?_
  obtain ⟨hh₀, g, d, tk, os⟩ := s
  dsimp only at X T ht
  have k1 : makesIn (hd.heap_39 w.params) 205 = true := by k_is
  have k2 : findIn (hd.heap_39 w.params) (.ref 205) "__init__" = some (some (.ref 69)) := by k_is
  have k3 : typeIn (hd.heap_39 w.params) (.ref 69) = some (.type "function") := by k_is
  refine make_core (makes_of X k1) (looks_findIn X k2) (fun self => bind_fn X self k3) (.inl rfl) ?_
  have hs1 : ∀ b o, hh₀.get? b = some o → ((hh₀.push emptyDict).push (instObj 205 hh₀.objs.size)).get? b = some o := fun b o e => Heap.get?_push_of_some _ (Heap.get?_push_of_some _ e)
  have hp1 : (hh₀.push emptyDict).objs.size = hh₀.objs.size + 1 := Heap.size_push ..
  refine' enterC (h₀ := hh₀) (news := [(hh₀.objs.size + 1, instObj 205 hh₀.objs.size), (hh₀.objs.size, dictOf [] 0)]) (binds := [(Str.ofString "self", .ref (hh₀.objs.size + 1)), (Str.ofString "pointer", .str (S l) t)]) X T.nolimit hs1 ?h0 ?hn ?h1 ?h2 ?hr ?h3 ?h4 ?_ ?h5 ?h6 ?h7 ?h8
  case h1 => k_is
  case h2 => k_is
  case h3 => exact BindsTo.of_eq rfl
  case h4 => exact locs rfl
  case h5 => decide
  case h6 => exact rfl
  case h7 => exact rfl
  case h8 => exact rfl
  case h0 => rw [Heap.size_push, hp1]; omega
  case hr => rw [depth_under_make]; omega
  case hn =>
    intro p hp
    rcases List.mem_cons.mp hp with rfl | hp
    · refine ⟨?_, Heap.get?_none_of_le (Nat.le_succ _)⟩
      have := Heap.get?_push_size (hh₀.push emptyDict) (o := instObj 205 hh₀.objs.size) rfl
      rwa [hp1] at this
    · rw [List.mem_singleton.mp hp]
      exact ⟨Heap.get?_push_of_some _ (Heap.get?_push_size _ rfl), Heap.get?_none_of_le (Nat.le_refl _)⟩
  intro h₁ F N
  dsimp only
  walk_at "m go"
  refine' useK ?sp ?d3 ?_
  case sp => exact bad_spec (X.keeps F.keep) (T.keeps F.keep) (by rw [depth_deeper, depth_under_make]; omega) hh hl
  case d3 => assumption
  intro v h2 tk2 hv2 hk2 htk2
  subst hv2
  have F2 := frK F hk2
  have N2 := newsK N hk2
  dsimp only at F2 N2 ⊢
  have hr1 : ∀ p ∈ [(hh₀.objs.size + 1, instObj 205 hh₀.objs.size), (hh₀.objs.size, dictOf [] 0)], p.1 ≠ h2.objs.size := fun p hp => Nat.ne_of_lt (Heap.lt_size (N2 p hp).1)
  rw [hv.1]
  walk_at "m go"
  refine splitN1 (hsz := by rw [S_length, sizeLine_eq]; omega) F2 N2 (by decide +kernel) fun sl h3 k3 hsl F3 N3 => ?_
  rw [litS, splitS] at hsl
  dsimp only at F3 N3 ⊢
  walk_at "m go"
  rename_i h4 F4 N4 tkx htkx
  have hvs := LS_strValues hsl
  obtain ⟨q, hq⟩ : ∃ q, splitL 47 l = [] :: q := by
    have := hv.2
    cases hs : splitL 47 l with
    | nil => exact absurd hs (splitL_ne 47 l)
    | cons p q => rw [hs] at this; simp at this; exact ⟨q, by rw [this]⟩
  rw [hq] at hvs
  obtain ⟨t0, vs, hsv, hvq⟩ := StrsAre.cons_inv (show StrsAre (strValues sl) (S [] :: q.map S) from hvs)
  have hlq : vs.length ≤ 1000000 := by
    have h1 : (splitL 47 l).length ≤ l.length + 1 := splitL_length 47 l
    have h2 := (show LS vs q from hvq).length
    rw [hq, List.length_cons] at h1
    omega
  rw [hsv] at N4
  refine pop0 F4 N4 hr1 hlq fun h5 F5 N5 => ?_
  dsimp only
  walk_at "m go"
  rw [show (S [] != Str.ofString "") = false from by rw [litE]; unfold bne; rw [S_beq]; rfl]
  walk_at "m go"
  refine wpAny_with_toks (n := 1) (by assumption) ?_
  refine compS (h₀ := hh₀) (f := unesc) (by with_unfolding_all rfl) (by decide) (by decide) rfl (by decide) rfl rfl rfl hh ?_ (fun _ => rfl)
  walk_at "m go"
  refine ⟨h2.objs.size, vs, q, _, _, rfl, PySem.IsL.isList (n := 0 + 1) (N5 _ (.head _)).1, hvq, by rw [sizeLine_eq]; omega, F5, N5, ?_, ?_⟩
  · intro C u tu s₃ m₃ E' hu hn hm hk htk
    have X3 := X.keeps (fun b o e => hk b o (F5.keep b o e))
    have T3 := T.keeps (fun b o e => hk b o (F5.keep b o e))
    have hul : u.length ≤ 100000 := Nat.le_trans (splitL_mem_len 47 l u (by rw [hq]; exact .tail _ hu)) hl
    refine Call_ ?_
    refine' nameG X3 T3 ?n1 ?_ ?n2 ?n3 ?n4 ?n5
    case n1 => k_is
    case n2 => exact rfl
    case n3 => exact rfl
    case n4 => exact rfl
    case n5 => decide
    refine' callWith_K X3 ?kp ?_
    case kp => k_is
    refine spliced_cons ?_
    refine nameL hn hm ?_ rfl rfl (by decide)
    refine spliced_nil ⟨X3, ?_⟩
    exact unescape_spec X3 T3 (by rw [depth_deeper, depth_under_make]; omega) hul
  · intro D h6 tk7 ys c F6 N6 hys hD hk6 htk7
    have neOf : ∀ p ∈ [(h2.objs.size, listOf vs.toArray (0 + 1)), (hh₀.objs.size + 1, instObj 205 hh₀.objs.size), (hh₀.objs.size, dictOf [] 0)], @Ne Nat D p.1 := fun p hp e => by
      have := (N5 p hp).1
      rw [← (show D = p.1 from e), hD] at this
      cases this
    have ne1 : @Ne Nat D hh₀.objs.size := neOf _ (.tail _ (.tail _ (.head _)))
    have ne2 : @Ne Nat D (hh₀.objs.size + 1) := neOf _ (.tail _ (.head _))
    have ne3 : @Ne Nat h2.objs.size hh₀.objs.size := Ne.symm (hr1 _ (.tail _ (.head _)))
    have ne4 : @Ne Nat h2.objs.size (hh₀.objs.size + 1) := Ne.symm (hr1 _ (.head _))
    have ne5 : @Ne Nat D h2.objs.size := neOf _ (.head _)
    walk_at "m go"
    rename_i h7 F7 N7
    refine ⟨rfl, ⟨_, rfl, hh₀.objs.size, D, ys, c, _, _, _, (N7 _ (.tail _ (.tail _ (.head _)))).1, (N7 _ (.tail _ (.tail _ (.tail _ (.head _))))).1, (N7 _ (.head _)).1, ?_, (N7 _ (.tail _ (.tail _ (.head _)))).2.2, (N7 _ (.tail _ (.tail _ (.tail _ (.head _))))).2.2, (N7 _ (.head _)).2.2⟩, ⟨_, _, rfl, F7.keep⟩⟩
    unfold toksOf
    rw [hq]
    exact hys
end
end Mine

end
section
open PySem PySem.W PySem.Calls PyProof.Rows
set_option Elab.async false
set_option maxRecDepth 100000
set_option maxHeartbeats 8000000
namespace Mine
/-- a code's table, whatever it holds -/
def Tab (h : Heap) (c P : Addr) : Prop := ∃ ps, h.IsCode c P ps ∧ h.TableAt c P ps
theorem Tab.keeps {h h' : Heap} {c P : Addr} (x : Tab h c P) (k : ∀ b o, h.get? b = some o → h'.get? b = some o) : Tab h' c P := let ⟨ps, a, b⟩ := x; ⟨ps, a.keeps k, b.keeps k⟩
theorem Tab.extBut {h h' : Heap} {c P a : Addr} (x : Tab h c P) (k : Heap.ExtBut a h h') (hc : c ≠ a) (hP : P ≠ a) : Tab h' c P := let ⟨ps, u, v⟩ := x; ⟨ps, u.extBut k hc hP, v.extBut k hc hP⟩
section
variable {w : World} {A : Around} {E : Value → Shared → Prop} {s : Shared} {c P L : Addr} {h₀ : Heap} {m mg : Str → Option Value} {bm : Addr} {ob : Obj}
theorem genexprCodeT {M : Model} {env : Env} {pos : Pos} {qualname : Str} {scope : Scope} {Q : Value → Shared → Prop} (hc : env.code = .ref c) (Tb : Tab s.heap c P)
    (hQ : ∀ code h' tk, Heap.ExtBut P s.heap h' → s.heap.objs.size ≤ h'.objs.size → Tab h' c P → Q code { s with heap := h', toks := tk }) : wpAny M A (genexprCode env pos qualname scope) Q E s := by
  obtain ⟨ps, hi, ht⟩ := Tb
  cases hca : codeAmong pos ps.toList with
  | some cv => exact wpAny_genexprCode_hit hc hi hca (hQ cv s.heap s.toks (Heap.ExtBut.refl _ _) (Nat.le_refl _) ⟨ps, hi, ht⟩)
  | none => exact wpAny_genexprCodeX hc hi ht hca fun c' h₃ tk₃ hx₃ hge hlt hcode₃ _ htab₃ _ => hQ _ h₃ tk₃ hx₃ (Nat.le_trans hge (Nat.le_of_lt hlt)) ⟨_, hcode₃, htab₃⟩
/-- a generator that has not begun -/
def GenT (w : World) (A : Around) (a : Addr) (n : Nat) (F : Nat → Value → Prop) (lo : Nat) (s : Shared) : Prop :=
  ∃ fp wr g St, WalksS prog w A.in4 a fp wr (GenOnlyQ g) n F St ∧ St 0 s ∧ (∀ i s', St i s' → s'.TypeIs (.ref a) "generator") ∧ a ∈ fp ∧ (∀ b ∈ fp, b < s.heap.objs.size) ∧ ∀ b ∈ wr, lo ≤ b
theorem passing_all (n : Nat) : passing (fun _ => true) n 0 = List.range n := by simp [passing]
theorem genexpT {env : Env} {elt iter : Expr} {x : Str} {px : Pos} {scope : Scope} {pos : Pos} {Q : Value → Shared → Prop}
    (hcode : env.code = .ref c) (hh : A.handled = none) (hco : scope.isCoroutine = false) (hclos : closureFor scope env = pure []) (hcell : ∀ y ∈ scope.names, y.2 ≠ .cell) (h0 : scope.names.lookup (".0" : Str) = some NameKind.local)
    (hx : scope.names.lookup x = some .local) (hkind : scope.kind = .function) (hroom : A.depth < recursionLimit)
    (h : wpAny (model prog w) A (eval iter env) (fun xv s₁ => ∃ (l : Addr) (items : Array Value) (F : Nat → Value → Prop), xv = .ref l ∧ s₁.heap.IsList l items ∧ Tab s₁.heap c P ∧ (∀ b o, h₀.get? b = some o → s₁.heap.get? b = some o) ∧ h₀.get? P = none ∧ h₀.NoLimit ∧ (∃ mg bm ob, BMod h₀ env.globals mg bm ob) ∧ AllBare s₁.gens ∧
      (∀ (C : Addr) (code : Value) (A' : Around) E' i v (t : Shared) m₂, A'.handled = none → A'.depth ≤ A.depth + 1 → A'.units ≤ A.units + 8 → items[i]? = some v → t.heap.Ns C m₂ → m₂ x = some v → (∀ b o, b ≠ P → s₁.heap.get? b = some o → t.heap.get? b = some o) →
        wpAny (model prog w) A' (eval elt (genEnv scope [] C code builtinsNs env)) (fun y s₃ => F i y ∧ Keeps t s₃) E' t) ∧
      (∀ a s₅, Tab s₅.heap c P → (∀ b o, b ≠ P → s₁.heap.get? b = some o → s₅.heap.get? b = some o) → s₁.heap.objs.size ≤ s₅.heap.objs.size → AllBare s₅.gens → s₅.os = s₁.os → s₅.drawn = s₁.drawn →
        GenT w A a items.size F s₁.heap.objs.size s₅ → Q (.ref a) s₅)) E s)
    (hs : ∀ x, genFold iter env x = pure x) :
    wpAny (model prog w) A (eval (.GeneratorExp elt [⟨.Name x px, iter, [], 0⟩] scope pos) env) Q E s := by
  refine wpAny_GeneratorExp_walksQD hh hco hclos hcell h0 hx hkind hroom (wpAny_mono h (fun xv s₁ h₁' => ?_) fun _ _ e => e) hs
  obtain ⟨l, items, F, rfl, hl, Tb, Fh, hP0, hlim0, ⟨mg, bm, ob, M⟩, hbare, hq, hQ⟩ := h₁'
  have hlt : l < s₁.heap.objs.size := by obtain ⟨_, e, _⟩ := hl; exact Heap.lt_size e
  have hPtab := Tb
  obtain ⟨ps, hic, htb⟩ := Tb
  have hPlt : P < s₁.heap.objs.size := Heap.lt_size htb.2
  have hlP : l ≠ P := fun e => by
    obtain ⟨o, ho, hc, _⟩ := hl
    rw [e, htb.2] at ho; cases ho; exact absurd hc (by simp)
  have keep₁ : ∀ b o, s₁.heap.get? b = some o → (s₁.heap.push { cls := .type "list_iterator", data := .fields #[.ref l, .int 0 0] }).get? b = some o := fun b o e => Heap.get?_push_of_some _ e
  have hneP : ∀ b o, h₀.get? b = some o → b ≠ P := fun b o e hb => by rw [hb, hP0] at e; cases e
  have hlim₁ : s₁.heap.NoLimit := hlim0.keeps Fh
  refine wpAny_pyIter_list hl ⟨hlim₁.keeps keep₁, genexprCodeT hcode (hPtab.keeps keep₁) fun code h₃ tk₃ hx₃ hsz Tb₃ => ?_⟩
  have k₃ : ∀ b o, h₀.get? b = some o → h₃.get? b = some o := fun b o e => hx₃ b o (hneP b o e) (keep₁ b o (Fh b o e))
  have hsz' : s₁.heap.objs.size + 1 ≤ h₃.objs.size := by
    have : (s₁.heap.push { cls := .type "list_iterator", data := .fields #[.ref l, .int 0 0] }).objs.size ≤ h₃.objs.size := hsz
    rwa [Heap.size_push] at this
  have M₃ := M.keeps k₃
  have hl₃ : h₃.NoLimit := hlim0.keeps k₃
  have hcs : cStatics < s₁.heap.objs.size := let ⟨_, hn, _⟩ := hlim₁; hn.lt
  refine wpAny_builtinsFor M₃.ns M₃.name M₃.ne M₃.obj M₃.cls M₃.dict M₃.data ?_
  have W₀ : ∀ A' : Around, A'.handled = none → Walks prog w A' s₁.heap.objs.size [s₁.heap.objs.size, l] [s₁.heap.objs.size] items.size _ _ := fun A' hA => Walks.list hA _ _ (Nat.ne_of_lt hlt) items
  refine ⟨s₁.heap.objs.size, [s₁.heap.objs.size, l], [s₁.heap.objs.size], items.size, _, _, fun _ => true, F, rfl, W₀, ?_, ?_, hl₃, ?_, fun href hhref => ⟨?_, ?_⟩, fun a h₅ tk gs hgb hag hsz₅ hk₅ W hat => ?_⟩
  · refine ⟨⟨_, hx₃ _ _ (Nat.ne_of_gt hPlt) (Heap.get?_push_size _ rfl), rfl, rfl⟩, ?_⟩
    obtain ⟨o, ho, r⟩ := hl
    exact ⟨o, hx₃ _ _ hlP (keep₁ _ _ ho), r⟩
  · intro b hb
    show b < h₃.objs.size
    rcases List.mem_cons.mp hb with rfl | hb
    · exact hsz'
    · rw [List.mem_singleton.mp hb]; exact Nat.lt_of_lt_of_le hlt (Nat.le_trans (Nat.le_succ _) hsz')
  · intro hm
    rw [List.mem_singleton.mp hm] at hcs
    exact Nat.lt_irrefl _ hcs
  · intro A' E' i v t m₂ hA hD hU hP hn hm hkp
    exact wpAny_pure ⟨rfl, keepsRefl _⟩
  · intro A' E' i v t m₂ hA hD hU hP _ hn hm hkp
    refine hq h₃.objs.size code A' E' i v t m₂ hA hD hU hP hn hm fun b o hb e => ?_
    refine hkp b (List.mem_range.mpr ?_) ?_ o (hhref b o (hx₃ b o hb (keep₁ b o e)))
    · exact Nat.lt_of_lt_of_le (Heap.lt_size e) (Nat.le_trans (Nat.le_succ _) hsz')
    · intro hm
      rw [List.mem_singleton.mp hm] at e
      exact Nat.lt_irrefl _ (Heap.lt_size e)
  · refine hQ a _ (Tb₃.keeps hk₅) (fun b o hb e => hk₅ b o (hx₃ b o hb (keep₁ b o e))) ?_ (hbare.push hgb) rfl rfl ?_
    · show s₁.heap.objs.size ≤ h₅.objs.size
      have q1 : h₃.objs.size < a := hag
      have q2 : h₅.objs.size = a + 1 := hsz₅
      exact Nat.le_trans (Nat.le_succ _) (Nat.le_trans hsz' (Nat.le_trans (Nat.le_of_lt q1) (q2 ▸ Nat.le_succ a)))
    · have e1 : (fun j y => ∃ i, (passing (fun _ => true) items.size 0)[j]? = some i ∧ F i y) = fun j y => j < items.size ∧ F j y := by
        funext j y
        rw [passing_all]
        apply propext
        constructor
        · rintro ⟨i, hi, hF⟩
          have hj := (List.getElem?_eq_some_iff.mp hi).1
          rw [List.length_range] at hj
          rw [List.getElem?_range hj] at hi
          obtain rfl := Option.some.inj hi
          exact ⟨hj, hF⟩
        · rintro ⟨hj, hF⟩
          exact ⟨j, List.getElem?_range hj, hF⟩
      have e2 : (passing (fun _ => true) items.size 0).length = items.size := by rw [passing_all, List.length_range]
      rw [e2] at W
      refine ⟨_, _, _, _, W.imp fun j y hy => ?_, hat, (fun i s' st => st.1.typeIs), List.mem_cons_self, ?_, ?_⟩
      · exact (Eq.mp (congrFun (congrFun e1 j) y) hy).2
      · intro b hb
        show b < h₅.objs.size
        have q1 : h₃.objs.size < a := hag
        have q2 : h₅.objs.size = a + 1 := hsz₅
        have q3 : a < h₅.objs.size := by rw [q2]; exact Nat.lt_succ_self _
        rcases List.mem_cons.mp hb with e | hb
        · rw [e]; exact q3
        · rcases List.mem_cons.mp hb with e | hb
          · rw [e]; exact Nat.lt_trans q1 q3
          · exact Nat.lt_trans (List.mem_range.mp hb) (Nat.lt_trans q1 q3)
      · intro b hb
        rcases List.mem_cons.mp hb with rfl | hb
        · show _ ≤ h₃.objs.size; exact Nat.le_trans (Nat.le_succ _) hsz'
        · rw [List.mem_singleton.mp hb]; exact Nat.le_refl _
theorem joinT {sep : Str} {t : Tok} {a : Addr} {n lo : Nat} {F : Nat → Value → Prop} {Q : Value → Shared → Prop} (tx : Nat → Str) (ht : 0 < s.toks) (X : GenT w A a n F lo s) (G : AllBare s.gens) (htx : ∀ j v, F j v → ∃ u, v = .str (tx j) u)
    (hok : JoinOk sep ((List.range n).map tx) = true)
    (hQ : ∀ s' t', (∀ b o, b < lo → s.heap.get? b = some o → s'.heap.get? b = some o) → AllBare s'.gens → s'.os = s.os → s'.drawn = s.drawn → 0 < s'.toks → Q (.str (Txt.join sep ((List.range n).map tx)) t') s')
    (hsz : n ≤ sizeLine) : wpAny (model prog w) A (call (.builtin "str.join") [.str sep t, .ref a]) Q E s := by
  obtain ⟨fp, wr, g, St, W, hst, hT, ha, hfp, hwr⟩ := X
  have W := W.in4_2
  refine wpAny_with_toks (n := 1) ht ?_
  refine SC.joinGen W hT hst hfp ha (fun j v hv => let ⟨u, e⟩ := htx j v hv; ⟨_, u, e⟩) (fun s' lt hm hacc => ?_) hsz
  have hl : lt.map (·.1) = (List.range n).map tx := by
    apply List.ext_getElem?
    intro j
    have hsz : lt.length = n := by simpa [strValues] using hacc.1
    by_cases hj : j < n
    · have hj' : j < lt.length := hsz ▸ hj
      obtain ⟨u, hv⟩ := htx j _ (hacc.2 j (.str lt[j].1 lt[j].2) (by simp [strValues, List.getElem?_eq_getElem hj']))
      injection hv with h1 _
      simp [List.getElem?_eq_getElem hj', hj, h1]
    · rw [List.getElem?_eq_none (by simpa [hsz] using Nat.le_of_not_lt hj), List.getElem?_eq_none (by simpa using Nat.le_of_not_lt hj)]
  rw [hl]
  refine ⟨hok, fun t' k hk => ?_⟩
  have k1 : ∀ b o, b < lo → s.heap.get? b = some o → s'.heap.get? b = some o := fun b o hb e => hm.heap b o (fun hmem => Nat.lt_irrefl _ (Nat.lt_of_lt_of_le hb (hwr b hmem))) e
  have g1 := G.movedS hm
  have o1 := hm.os
  have d1 := hm.drawn
  exact hQ { s' with toks := k } t' k1 g1 o1 d1 hk
end
end Mine

end
section
open PySem PySem.W PySem.Calls PyProof.Rows
set_option Elab.async false
set_option maxRecDepth 100000
set_option maxHeartbeats 8000000
namespace Mine
theorem fill_it8 (P : (OpenLaw → (Params → Frag) → Prop)) (h : P PySem.Challenge.rw_jh0011_01 hd.heap_39) : P PySem.Challenge.rw_jh0011_01 hd.heap_39 := by
  k_fill
  exact h
abbrev tab3 (p q r : Array Value) : List (Addr × Obj) := [(176, tabObj p), (196, tabObj q), (239, tabObj r)]
abbrev tabs : List Addr := [176, 196, 239]
def Trip (p q r : Array Value) : Prop := TriplesOk p.toList ∧ TriplesOk q.toList ∧ TriplesOk r.toList
/-- the three code tables lie in the heap -/
def Tabs3 (h : Heap) : Prop := ∃ p q r, Trip p q r ∧ h.get? 176 = some (tabObj p) ∧ h.get? 196 = some (tabObj q) ∧ h.get? 239 = some (tabObj r)
theorem Tabs3.keeps {h h' : Heap} (x : Tabs3 h) (k : ∀ b o, h.get? b = some o → h'.get? b = some o) : Tabs3 h' := let ⟨p, q, r, t, a, b, c⟩ := x; ⟨p, q, r, t, k _ _ a, k _ _ b, k _ _ c⟩
theorem Tabs3.not {h : Heap} (x : Tabs3 h) {b : Addr} {o : Obj} (e : h.get? b = some o) (hc : o.cls ≠ .none) : b ∉ tabs := by
  obtain ⟨p, q, r, _, h1, h2, h3⟩ := x
  intro hm
  rcases List.mem_cons.mp hm with rfl | hm
  · rw [h1] at e; cases e; exact hc rfl
  rcases List.mem_cons.mp hm with rfl | hm
  · rw [h2] at e; cases e; exact hc rfl
  rw [List.mem_singleton.mp hm, h3] at e; cases e; exact hc rfl
theorem hd1 (w : World) : codeHdIn (hd.heap_39 w.params) 178 176 = true := by kernel_rfl
theorem hd2 (w : World) : codeHdIn (hd.heap_39 w.params) 198 196 = true := by kernel_rfl
theorem hd3 (w : World) : codeHdIn (hd.heap_39 w.params) 243 239 = true := by kernel_rfl
theorem no1 (w : World) : (hd.heap_39 w.params).lookup 176 = none := by kernel_rfl
theorem no2 (w : World) : (hd.heap_39 w.params).lookup 196 = none := by kernel_rfl
theorem no3 (w : World) : (hd.heap_39 w.params).lookup 239 = none := by kernel_rfl
theorem noTab (w : World) {b : Addr} {o : Obj} (e : (hd.heap_39 w.params).lookup b = some o) : b ∉ tabs := by
  intro hm
  rcases List.mem_cons.mp hm with rfl | hm
  · rw [no1] at e; cases e
  rcases List.mem_cons.mp hm with rfl | hm
  · rw [no2] at e; cases e
  rw [List.mem_singleton.mp hm, no3] at e; cases e
theorem Tab.of {w : World} {h : Heap} {c P : Addr} {ps : Array Value} (X : (hd.heap_39 w.params).In h) (e : codeHdIn (hd.heap_39 w.params) c P = true) (hP : h.get? P = some (tabObj ps)) (ht : TriplesOk ps.toList) : Tab h c P :=
  let H := codeHd_of_K X e
  ⟨ps, H.code hP ht, H.tab hP⟩
theorem Tab.get {h : Heap} {c P : Addr} (x : Tab h c P) : ∃ ps, TriplesOk ps.toList ∧ h.get? P = some (tabObj ps) := by
  obtain ⟨ps, ⟨o, vs, file, tf, flags, tg, inF, text, tt, op, _, _, _, _, _, _, _, e1, e2, e3, _⟩, t⟩ := x
  exact ⟨ps, e3, t.2⟩
structure Cx (w : World) (loose : List Str) (mg mb : Str → Option Value) (h : Heap) : Prop where
  X : (hd.heap_39 w.params).In h
  T : TopRead Mine.view0 loose mg mb h
  M : ∃ bm ob, BMod h mainGlobals mg bm ob
section
variable {w : World} {loose : List Str} {mg mb : Str → Option Value} {h h' : Heap}
theorem Cx.keeps (x : Cx w loose mg mb h) (k : ∀ b o, h.get? b = some o → h'.get? b = some o) : Cx w loose mg mb h' := ⟨x.X.keeps k, x.T.keeps k, let ⟨bm, ob, m⟩ := x.M; ⟨bm, ob, m.keeps k⟩⟩
abbrev hid (h : Heap) : Heap := hideAll h tabs
theorem hid_size (h : Heap) : (hid h).objs.size = h.objs.size := hideAll_size _ _
theorem Cx.hid (x : Cx w loose mg mb h) (t : Tabs3 h) : Cx w loose mg mb (hid h) := by
  obtain ⟨X, T, bm, ob, M⟩ := x
  have ns : ∀ {a m}, h.Ns a m → a ∉ tabs → (Mine.hid h).Ns a m := fun n hn => n.at' fun o e => hideAll_get _ e hn
  refine ⟨fun a o e => hideAll_get _ (X a o e) (noTab w e), ⟨ns T.g (by decide), ns T.b (by decide), ?_, T.builtins, T.free⟩, bm, ob, ⟨ns M.ns (by decide), M.name, M.ne, hideAll_get _ M.obj (t.not M.obj (by rw [M.cls]; simp)), M.cls, M.dict, M.data⟩⟩
  obtain ⟨mc, h1, h2⟩ := T.nolimit
  exact ⟨mc, ns h1 (by decide), h2⟩
theorem hid_none {b : Addr} (hb : b ∈ tabs) : (hid h).get? b = none := hideAll_none _ hb
end
/-- what a call may change: new objects, the three tables, the generators -/
structure KeepsT (s s' : Shared) : Prop where
  keep : ∀ b o, b ∉ tabs → s.heap.get? b = some o → s'.heap.get? b = some o
  tabs : Tabs3 s'.heap
  bare : AllBare s'.gens
  tk : 0 < s'.toks
  os : s'.os = s.os
  drawn : s'.drawn = s.drawn
theorem Cx.keepsT {w : World} {loose : List Str} {mg mb : Str → Option Value} {s s' : Shared} (x : Cx w loose mg mb s.heap) (t : Tabs3 s.heap) (k : KeepsT s s') : Cx w loose mg mb s'.heap :=
  (x.hid t).keeps fun b o e => k.keep b o (fun hb => by rw [hid_none hb] at e; cases e) (of_hideAll _ e)
theorem KeepsT.hid {s s' : Shared} (k : KeepsT s s') : ∀ b o, (Mine.hid s.heap).get? b = some o → s'.heap.get? b = some o := fun b o e => k.keep b o (fun hb => by rw [hid_none hb] at e; cases e) (of_hideAll _ e)
/-- the context of a call that may use a generator -/
structure Cg (w : World) (loose : List Str) (mg mb : Str → Option Value) (s : Shared) : Prop where
  cx : Cx w loose mg mb s.heap
  tabs : Tabs3 s.heap
  bare : AllBare s.gens
  tk : 0 < s.toks
theorem Cg.next {w : World} {loose : List Str} {mg mb : Str → Option Value} {s s' : Shared} (x : Cg w loose mg mb s) (k : KeepsT s s') : Cg w loose mg mb s' := ⟨x.cx.keepsT x.tabs k, k.tabs, k.bare, k.tk⟩
section
variable {w : World} {A : Around} {E : Value → Shared → Prop} {s : Shared} {h₀ : Heap} {L : Addr} {m : Str → Option Value}
theorem frT {s' : Shared} (F : Fr h₀ L s.heap m) (hn : ∀ b ∈ tabs, h₀.get? b = none) (hL : L ∉ tabs) (k : KeepsT s s') : Fr h₀ L s'.heap m :=
  ⟨F.ns.at' fun o e => k.keep _ _ hL e, fun b o e => k.keep b o (fun hb => by rw [hn b hb] at e; cases e) (F.keep b o e), F.above⟩
theorem newsT {s' : Shared} {rest : List (Addr × Obj)} {p q r : Array Value} (N : News h₀ L s.heap (rest ++ tab3 p q r)) (hr : ∀ x ∈ rest, x.1 ∉ tabs) (k : KeepsT s s') :
    ∃ p' q' r', Trip p' q' r' ∧ News h₀ L s'.heap (rest ++ tab3 p' q' r') := by
  obtain ⟨p', q', r', t, h1, h2, h3⟩ := k.tabs
  refine ⟨p', q', r', t, fun x hx => ?_⟩
  rcases List.mem_append.mp hx with hx | hx
  · have n := N x (List.mem_append.mpr (.inl hx))
    exact ⟨k.keep _ _ (hr x hx) n.1, n.2⟩
  · have n1 := (N (176, tabObj p) (List.mem_append.mpr (.inr (.head _)))).2
    have n2 := (N (196, tabObj q) (List.mem_append.mpr (.inr (.tail _ (.head _))))).2
    have n3 := (N (239, tabObj r) (List.mem_append.mpr (.inr (.tail _ (.tail _ (.head _)))))).2
    rcases List.mem_cons.mp hx with rfl | hx
    · exact ⟨h1, n1⟩
    rcases List.mem_cons.mp hx with rfl | hx
    · exact ⟨h2, n2⟩
    rw [List.mem_singleton.mp hx]
    exact ⟨h3, n3⟩
theorem tabsOf {rest : List (Addr × Obj)} {p q r : Array Value} (N : News h₀ L s.heap (rest ++ tab3 p q r)) (t : Trip p q r) : Tabs3 s.heap :=
  ⟨p, q, r, t, (N (176, tabObj p) (List.mem_append.mpr (.inr (.head _)))).1, (N (196, tabObj q) (List.mem_append.mpr (.inr (.tail _ (.head _))))).1, (N (239, tabObj r) (List.mem_append.mpr (.inr (.tail _ (.tail _ (.head _)))))).1⟩
end
theorem notL {h₀ h : Heap} {L : Addr} {rest : List (Addr × Obj)} {p q r : Array Value} (N : News h₀ L h (rest ++ tab3 p q r)) : L ∉ tabs := by
  have n1 := N (176, tabObj p) (List.mem_append.mpr (.inr (.head _)))
  have n2 := N (196, tabObj q) (List.mem_append.mpr (.inr (.tail _ (.head _))))
  have n3 := N (239, tabObj r) (List.mem_append.mpr (.inr (.tail _ (.tail _ (.head _)))))
  intro hm
  rcases List.mem_cons.mp hm with e | hm
  · exact n1.2.1 e.symm
  rcases List.mem_cons.mp hm with e | hm
  · exact n2.2.1 e.symm
  · exact n3.2.1 (List.mem_singleton.mp hm).symm
theorem newsTabs {h₀ h : Heap} {L : Addr} {rest : List (Addr × Obj)} {p q r : Array Value} (N : News h₀ L h (rest ++ tab3 p q r)) (t : Trip p q r) : Tabs3 h :=
  ⟨p, q, r, t, (N (176, tabObj p) (List.mem_append.mpr (.inr (.head _)))).1, (N (196, tabObj q) (List.mem_append.mpr (.inr (.tail _ (.head _))))).1, (N (239, tabObj r) (List.mem_append.mpr (.inr (.tail _ (.tail _ (.head _)))))).1⟩
theorem notTab {h₀ h : Heap} {L : Addr} {rest : List (Addr × Obj)} {p q r : Array Value} (N : News h₀ L h (rest ++ tab3 p q r)) (t : Trip p q r) (hc : ∀ x ∈ rest, x.2.cls ≠ .none) : ∀ x ∈ rest, x.1 ∉ tabs :=
  fun x hx => (newsTabs N t).not (N x (List.mem_append.mpr (.inl hx))).1 (hc x hx)
/-- a function's end -/
theorem keepsTfin {s s' : Shared} {h₀ : Heap} {L : Addr} {m : Str → Option Value} {rest : List (Addr × Obj)} {p q r : Array Value} (hh0 : ∀ b o, b ∉ tabs → s.heap.get? b = some o → h₀.get? b = some o)
    (F : Fr h₀ L s'.heap m) (N : News h₀ L s'.heap (rest ++ tab3 p q r)) (trip : Trip p q r) (hb : AllBare s'.gens) (ht : 0 < s'.toks) (ho : s'.os = s.os) (hd : s'.drawn = s.drawn) : KeepsT s s' :=
  ⟨fun b o hbt e => F.keep b o (hh0 b o hbt e), newsTabs N trip, hb, ht, ho, hd⟩
/-- a generator made and read -/
theorem keepsTmid {s s' s₅ : Shared} {P : Addr} (T : Tabs3 s.heap) (hP : P ∈ tabs) (k5 : ∀ b o, b ≠ P → s.heap.get? b = some o → s₅.heap.get? b = some o) (tb : ∃ ps, TriplesOk ps.toList ∧ s₅.heap.get? P = some (tabObj ps))
    (k6 : ∀ b o, b < s.heap.objs.size → s₅.heap.get? b = some o → s'.heap.get? b = some o) (hb : AllBare s'.gens) (ht : 0 < s'.toks) (ho : s'.os = s.os) (hd : s'.drawn = s.drawn) : KeepsT s s' := by
  have k7 : ∀ b o, b ≠ P → s.heap.get? b = some o → s'.heap.get? b = some o := fun b o hbp e => k6 b o (Heap.lt_size e) (k5 b o hbp e)
  have tabP : ∀ b ps, TriplesOk ps.toList → s.heap.get? b = some (tabObj ps) → ∃ ps', TriplesOk ps'.toList ∧ s'.heap.get? b = some (tabObj ps') := by
    intro b ps t e
    by_cases hbp : b = P
    · subst hbp
      obtain ⟨ps', t', e'⟩ := tb
      exact ⟨ps', t', k6 _ _ (Heap.lt_size e) e'⟩
    · exact ⟨ps, t, k7 b _ hbp e⟩
  obtain ⟨p, q, r, trip, n1, n2, n3⟩ := T
  refine ⟨fun b o hbt e => k7 b o (fun e => hbt (e ▸ hP)) e, ?_, hb, ht, ho, hd⟩
  obtain ⟨p', t1, e1⟩ := tabP 176 p trip.1 n1
  obtain ⟨q', t2, e2⟩ := tabP 196 q trip.2.1 n2
  obtain ⟨r', t3, e3⟩ := tabP 239 r trip.2.2 n3
  exact ⟨p', q', r', ⟨t1, t2, t3⟩, e1, e2, e3⟩
section
theorem joinE (ls : List (List Nat)) : Txt.join (Str.ofString "") (ls.map S) = S ls.flatten := by
  rw [litE]
  unfold Txt.join
  rw [StrLaws.glued_eq_join]
  induction ls with
  | nil => rfl
  | cons a r ih =>
    cases r with
    | nil => simp [Str.join]
    | cons b r =>
      rw [List.map_cons, List.map_cons] at *
      show S a ++ S [] ++ Str.join (S []) (S b :: r.map S) = _
      rw [ih, S_append, S_append]
      simp
theorem joinOkE {ls : List (List Nat)} (h : ls.flatten.length ≤ 1000000) : JoinOk (Str.ofString "") (ls.map S) = true := by
  refine joinOk_of ?_
  have e : (((ls.map S).map (·.length)).sum) = ls.flatten.length := by
    rw [List.length_flatten, List.map_map]
    exact congrArg List.sum (List.map_congr_left fun l _ => S_length l)
  rw [e, show (Str.ofString "").length = 0 from by decide +kernel]
  exact Nat.le_trans (Nat.le_of_eq (by simp)) (Nat.le_trans h (by decide))
end
/-- a pointer in the heap -/
def PtrIn (h : Heap) (x : Addr) (ps : List (List Nat)) : Prop :=
  ∃ dx l vs c tk n hs, h.get? x = some (instObj 205 dx) ∧ h.get? dx = some (dictOf [⟨hs, .str (Str.ofString "parts") tk, .ref l⟩] n) ∧ h.get? l = some (listOf vs.toArray c) ∧ LS vs ps
theorem NewPtr.ptr {h₀ h : Heap} {x : Addr} {ps : List (List Nat)} (P : NewPtr h₀ h x ps) : PtrIn h x ps := by
  obtain ⟨dx, l, vs, c, tk, n, hs, a, b, d, e, _⟩ := P
  exact ⟨dx, l, vs, c, tk, n, hs, a, b, d, e⟩
theorem PtrIn.keeps {h h' : Heap} {x : Addr} {ps : List (List Nat)} (P : PtrIn h x ps) (k : ∀ b o, h.get? b = some o → h'.get? b = some o) : PtrIn h' x ps := by
  obtain ⟨dx, l, vs, c, tk, n, hs, a, b, d, e⟩ := P
  exact ⟨dx, l, vs, c, tk, n, hs, k _ _ a, k _ _ b, k _ _ d, e⟩
theorem PtrIn.hid {h : Heap} {x : Addr} {ps : List (List Nat)} (P : PtrIn h x ps) (t : Tabs3 h) : PtrIn (Mine.hid h) x ps := by
  obtain ⟨dx, l, vs, c, tk, n, hs, a, b, d, e⟩ := P
  exact ⟨dx, l, vs, c, tk, n, hs, hideAll_get _ a (t.not a (by simp)), hideAll_get _ b (t.not b (by simp)), hideAll_get _ d (t.not d (by simp)), e⟩
theorem PtrIn.keepsT {s s' : Shared} {x : Addr} {ps : List (List Nat)} (P : PtrIn s.heap x ps) (t : Tabs3 s.heap) (k : KeepsT s s') : PtrIn s'.heap x ps := (P.hid t).keeps k.hid
section
variable {w : World} {A : Around} {E : Value → Shared → Prop} {s : Shared}
theorem getParts {x : Addr} {ps : List (List Nat)} {e : Bool} {Q : Value → Shared → Prop} (X : (hd.heap_39 w.params).In s.heap) (P : PtrIn s.heap x ps)
    (h : ∀ l vs c, s.heap.get? l = some (listOf vs.toArray c) → LS vs ps → Q (.ref l) { s with toks := s.toks + 1 }) : wpAny (model prog w) A (getAttr (.ref x) (Str.ofString "parts") e) Q E s := by
  obtain ⟨dx, l, vs, c, tk, n, hs, a, b, d, g⟩ := P
  have k1 : plainGet (hd.heap_39 w.params) 205 (Str.ofString "parts") = true := by k_is
  have k2 : hasDictIn (hd.heap_39 w.params) 205 = true := by k_is
  have k3 : findIn (hd.heap_39 w.params) (.ref 205) (Str.ofString "parts") = some none := by k_is
  have k4 : noGet (hd.heap_39 w.params) none = true := rfl
  have k5 : PySem.W.getL (Str.ofString "parts") [⟨hs, .str (Str.ofString "parts") tk, .ref l⟩] = some (some (.ref l)) := by k_get
  refine get_value X (C := 205) (od := some (dictOf [⟨hs, .str (Str.ofString "parts") tk, .ref l⟩] n)) ⟨a, rfl, rfl, b⟩ (plainGet_of k1).1 (findObj_own k2 k3 k4 k5) (by k_handed) (h l vs c d g)
end
end Mine

end
section
open PySem PySem.W PySem.Calls PyProof.Rows
open PySem.Builtin PySem.Builtin.Str
set_option Elab.async false
set_option maxRecDepth 100000
set_option maxHeartbeats 1000000
namespace Mine
theorem fill_it9 (P : (OpenLaw → (Params → Frag) → Prop)) (h : P PySem.Challenge.rw_jh0011_01 hd.heap_39) : P PySem.Challenge.rw_jh0011_01 hd.heap_39 := by
  k_fill
  exact h
local macro_rules | `(tactic| walk_at "m go") => `(tactic| repeat (first | ((with_reducible show wpAny _ _ _ _ _ _); (fail_if_success (with_reducible show wpAny _ _ (PySem.exec (Stmt.For _ _ _ _ _) _) _ _ _)); (fail_if_success (with_reducible show wpAny _ _ (PySem.call (Value.ref _) _ _) _ _ _)); (fail_if_success (with_reducible show wpAny _ _ (PySem.getAttr (Value.ref _) _ _) _ _ _)); (fail_if_success (with_reducible show wpAny _ _ (PySem.eval (Expr.GeneratorExp _ _ _ _) _) _ _ _)); (fail_if_success (with_reducible show wpAny _ _ (PySem.exec (Stmt.Assign _ (Expr.ListComp _ _ _ _) _) _) _ _ _)); walk1; (try dsimp only)) | (with_reducible refine And.intro (Frag.In.keeps (by assumption) (Fr.keep (by assumption))) ?_) | (with_reducible refine split_not ?_) | (with_reducible refine ite_tt ?_) | (with_reducible refine ite_ff ?_)))
local macro_rules | `(tactic| walk_at "execs cons") => `(tactic| (refine execs_consG ?hp ?_; (case hp => first | assumption | exact Nat.succ_pos _ | exact Nat.lt_of_lt_of_le (by assumption) (Nat.le_add_right _ _) | omega); intro tk' htk'))
local macro_rules | `(tactic| walk_at "execs nil") => `(tactic| refine wpAny_execs_nil ?_)
theorem escC_pos (k : Nat) : 1 ≤ (escC k).length := by
  unfold escC
  split
  · simp
  · split <;> simp
theorem esc_ge : ∀ l : List Nat, l.length ≤ (esc l).length
  | [] => Nat.le_refl _
  | k :: r => by
    have := esc_ge r
    have := escC_pos k
    rw [esc_cons, List.length_append, List.length_cons]; omega
theorem pathOf_count : ∀ ps : List (List Nat), ps.length ≤ (pathOf ps).length
  | [] => Nat.le_refl _
  | p :: r => by
    have := pathOf_count r
    rw [pathOf_cons, List.length_cons, List.length_cons, List.length_append]; omega
theorem pathOf_mem : ∀ {ps : List (List Nat)} {p : List Nat}, p ∈ ps → p.length ≤ (pathOf ps).length
  | q :: r, p, h => by
    rw [pathOf_cons, List.length_cons, List.length_append]
    rcases List.mem_cons.mp h with rfl | h
    · have := esc_ge p; omega
    · have := pathOf_mem h; omega
theorem range_S {qs : List (List Nat)} {n : Nat} (hn : n = qs.length) : (List.range n).map (fun j => S (qs.getD j [])) = qs.map S := by
  subst hn
  have e := congrArg (List.map S) (range_getD qs [])
  rw [List.map_map] at e
  exact e
theorem pathOf_esc {ps : List (List Nat)} {l : List Nat} (h : l ∈ ps.map esc) : l.length ≤ (pathOf ps).length := by
  obtain ⟨p, hp, rfl⟩ := List.mem_map.mp h
  obtain ⟨a, b, rfl⟩ := List.append_of_mem hp
  rw [pathOf_append, pathOf_cons, List.length_append, List.length_cons, List.length_append]; omega
theorem eltE {w : World} {A : Around} {E : Value → Shared → Prop} {ys : List Value} {qs : List (List Nat)} {i : Nat} {v : Value} {h : Heap} {g : Array GenState} {d : Drawn} {tk : Nat} {os : OsState} {m : Str → Option Value} {env : Env} {x : Str} {p1 p2 p3 : Pos} {k : Nat} {c : Str}
    (hys : LS ys qs) (hi : ys.toArray[i]? = some v) (hn : h.Ns env.locals m) (hm : m x = some v) (hk : env.scope.kind = .function) (hl : env.kindOf x = some .local) (hd : (x == ("__debug__" : Str)) = false) (hc : c = S [47]) (hb : ∀ l ∈ qs, l.length ≤ 100000) :
    wpAny (model prog w) A (eval (.BinOp (.Constant (.str c) k p1) .Add (.Name x p2) p3) env) (fun y s₃ => (∃ u, y = Value.str (S ((qs.map (47 :: ·)).getD i [])) u) ∧ Keeps ⟨h, g, d, tk, os⟩ s₃) E ⟨h, g, d, tk, os⟩ := by
  subst hc
  have hi' : ys[i]? = some v := by simpa using hi
  have hlt : i < qs.length := by rw [← hys.length]; exact (List.getElem?_eq_some_iff.mp hi').1
  obtain ⟨t, ht⟩ := hys.get (List.getElem?_eq_getElem hlt)
  rw [hi'] at ht
  obtain rfl := Option.some.inj ht
  refine wpAny_BinOp (Constant_str (nameL hn hm ?_ hk hl hd))
  have hb' := hb qs[i] (List.getElem_mem hlt)
  refine addS (by simp; omega) fun t' tk' => ⟨⟨t', ?_⟩, ⟨_, _, rfl, fun _ _ e => e⟩⟩
  have e : (qs.map (47 :: ·)).getD i [] = [47] ++ qs[i] := by simp [List.getD_eq_getElem?_getD, hlt]
  rw [e]
theorem pathOf_flat : ∀ ps : List (List Nat), ((ps.map esc).map (47 :: ·)).flatten = pathOf ps
  | [] => rfl
  | p :: r => by
    rw [List.map_cons, List.map_cons, List.flatten_cons, pathOf_flat r, pathOf_cons]; rfl
section
variable {w : World} {A : Around} {E : Value → Shared → Prop} {s : Shared} {loose : List Str} {mg mb : Str → Option Value}
theorem path_code {x : Addr} {ps : List (List Nat)} {R : Result → Shared → Prop} (C : Cg w loose mg mb s) (I : PtrIn s.heap x ps) (hdp : A.depth + 5 < recursionLimit) (hh : A.handled = none) (hl : (pathOf ps).length ≤ 100000)
    (h : ∀ t s', KeepsT s s' → R (.ok (.ret (.str (S (pathOf ps)) t))) s') : codeAny (model prog w) A (.call (.ref 179) ⟨[.ref x], []⟩) R s := by
  obtain ⟨cx, ct, cb, ck⟩ := C
  have C0 := cx.hid ct
  have I0 := I.hid ct
  have hn0 : ∀ b ∈ tabs, (hid s.heap).get? b = none := fun b hb => hid_none hb
  have hs0 := hid_size s.heap
  have hk0 : ∀ b o, (hid s.heap).get? b = some o → s.heap.get? b = some o := fun b o e => of_hideAll _ e
  have hh0 : ∀ b o, b ∉ tabs → s.heap.get? b = some o → (hid s.heap).get? b = some o := fun b o hb e => hideAll_get _ e hb
  obtain ⟨p, q, r, trip, e1, e2, e3⟩ := ct
  generalize hid s.heap = h₀ at *
  obtain ⟨X, T, bm, ob, M⟩ := C0
  obtain ⟨hh₀, g, d, tk, os⟩ := s
  dsimp only at *
  refine' enterC (h₀ := h₀) (news := tab3 p q r) (binds := [(Str.ofString "self", .ref x)]) X T.nolimit hk0 ?h0 ?hn ?h1 ?h2 ?hr ?h3 ?h4 ?_ ?h5 ?h6 ?h7 ?h8
  case h1 => k_is
  case h2 => k_is
  case h3 => exact BindsTo.of_eq rfl
  case h4 => exact locs rfl
  case h5 => decide
  case h6 => exact rfl
  case h7 => exact rfl
  case h8 => exact rfl
  case h0 => exact Nat.le_of_eq hs0
  case hr => omega
  case hn =>
    intro y hy
    rcases List.mem_cons.mp hy with rfl | hy
    · exact ⟨e1, hn0 _ (.head _)⟩
    rcases List.mem_cons.mp hy with rfl | hy
    · exact ⟨e2, hn0 _ (.tail _ (.head _))⟩
    rw [List.mem_singleton.mp hy]
    exact ⟨e3, hn0 _ (.tail _ (.tail _ (.head _)))⟩
  intro h₁ F N
  dsimp only
  walk_at "m go"
  refine wpAny_with_toks (n := 1) (by assumption) ?_
  refine compS (h₀ := h₀) (f := esc) (by with_unfolding_all rfl) (by decide) (by decide) rfl (by decide) rfl rfl rfl hh ?_ (fun _ => rfl)
  walk_at "m go"
  refine getParts (X.keeps F.keep) (I0.keeps F.keep) fun l vs c hg hvs => ?_
  dsimp only
  refine ⟨l, vs, ps, _, _, rfl, PySem.IsL.isList hg, hvs, ?_, F, N, ?_, ?_⟩
  · have h1 := hvs.length
    have h2 := pathOf_count ps
    rw [sizeLine_eq]; omega
  · intro C u tu s₃ m₃ E' hu hn hm hk htk
    have X3 := X.keeps (fun b o e => hk b o (F.keep b o e))
    have T3 := T.keeps (fun b o e => hk b o (F.keep b o e))
    have hul := pathOf_mem hu
    refine Call_ ?_
    refine' nameG X3 T3 ?n1 ?_ ?n2 ?n3 ?n4 ?n5
    case n1 => k_is
    case n2 => exact rfl
    case n3 => exact rfl
    case n4 => exact rfl
    case n5 => decide
    refine' callWith_K X3 ?kp ?_
    case kp => k_is
    refine spliced_cons ?_
    refine nameL hn hm ?_ rfl rfl (by decide)
    refine spliced_nil ⟨X3, ?_⟩
    exact escape_spec X3 T3 (by rw [depth_deeper]; omega) (by omega)
  · intro D h6 tk7 ys c F6 N6 hys hD hk6 htk7
    walk_at "m go"
    refine wpAny_with_toks (n := 1) (Nat.succ_pos _) ?_
    refine genexpT (c := 178) (P := 176) (h₀ := h₀) rfl hh rfl (by with_unfolding_all rfl) (by decide) (by decide +kernel) (by decide +kernel) rfl (by rw [depth_deeper]; omega) ?_ (fun _ => by with_unfolding_all rfl)
    walk_at "m go"
    refine ⟨D, ys.toArray, fun j v => ∃ u, v = .str (S (((ps.map esc).map (47 :: ·)).getD j [])) u, rfl, PySem.IsL.isList (N6 _ (.head _)).1, Tab.of (X.keeps F6.keep) (hd1 w) (N6 _ (.tail _ (.head _))).1 trip.1, F6.keep, hn0 _ (.head _), T.nolimit, ⟨_, _, _, M⟩, cb, ?_, ?_⟩
    · intro C code A' E' i v t m₂ hA hD hU hi hn hm hk
      obtain ⟨th, tg, td, ttk, tos⟩ := t
      dsimp only at hn hk ⊢
      exact eltE hys hi hn hm rfl rfl (by decide) litS (fun l hl' => Nat.le_trans (pathOf_esc hl') hl)
    · intro a s₅ tb k5 sz5 b5 o5 d5 G5 htk5
      refine spliced_nil ?_
      refine joinT (fun j => S (((ps.map esc).map (47 :: ·)).getD j [])) htk5 G5 b5 (fun j v hv => hv) ?_ (fun s' t' k6 b6 o6 d6 tk6 => ?_) ?_
      · rw [range_S (by rw [List.size_toArray, List.length_map]; exact hys.length)]
        exact joinOkE (by rw [pathOf_flat]; omega)
      · rw [range_S (by rw [List.size_toArray, List.length_map]; exact hys.length), joinE, pathOf_flat]
        have K := keepsTmid (s := ⟨h6, g, d, tk7, os⟩) (s' := s') (newsTabs (rest := [(D, W.listOf ys.toArray c)]) N6 trip) (.head _) k5 tb.get k6 b6 tk6 (o6.trans o5) (d6.trans d5)
        obtain ⟨p', q', r', trip', N7⟩ := newsT (rest := [(D, W.listOf ys.toArray c)]) (s := ⟨h6, g, d, tk7, os⟩) N6 (notTab (rest := [(D, W.listOf ys.toArray c)]) N6 trip (by intro y hy; rw [List.mem_singleton.mp hy]; simp)) K
        exact h t' s' (keepsTfin (rest := [(D, W.listOf ys.toArray c)]) hh0 (frT (s := ⟨h6, g, d, tk7, os⟩) F6 hn0 (notL (rest := [(D, W.listOf ys.toArray c)]) N6) K) N7 trip' b6 tk6 (o6.trans o5) (d6.trans d5))
      · have h1 := hys.length
        have h2 := pathOf_count ps
        rw [List.length_map] at h1
        rw [List.size_toArray, sizeLine_eq]; omega
end
end Mine

end
section
open PySem PySem.W PySem.Calls PyProof.Rows
open PySem.Builtin PySem.Builtin.Str
set_option Elab.async false
set_option maxRecDepth 100000
set_option maxHeartbeats 1000000
namespace Mine
theorem fill_it10 (P : (OpenLaw → (Params → Frag) → Prop)) (h : P PySem.Challenge.rw_jh0011_01 hd.heap_39) : P PySem.Challenge.rw_jh0011_01 hd.heap_39 := by
  k_fill
  exact h
local macro_rules | `(tactic| walk_at "m go") => `(tactic| repeat (first | ((with_reducible show wpAny _ _ _ _ _ _); (fail_if_success (with_reducible show wpAny _ _ (PySem.exec (Stmt.For _ _ _ _ _) _) _ _ _)); (fail_if_success (with_reducible show wpAny _ _ (PySem.call (Value.ref _) _ _) _ _ _)); (fail_if_success (with_reducible show wpAny _ _ (PySem.getAttr (Value.ref _) _ _) _ _ _)); (fail_if_success (with_reducible show wpAny _ _ (PySem.eval (Expr.GeneratorExp _ _ _ _) _) _ _ _)); (fail_if_success (with_reducible show wpAny _ _ (PySem.exec (Stmt.Assign _ (Expr.ListComp _ _ _ _) _) _) _ _ _)); walk1; (try dsimp only)) | (with_reducible refine And.intro (Frag.In.keeps (by assumption) (Fr.keep (by assumption))) ?_) | (with_reducible refine split_not ?_) | (with_reducible refine ite_tt ?_) | (with_reducible refine ite_ff ?_)))
local macro_rules | `(tactic| walk_at "execs cons") => `(tactic| (refine execs_consG ?hp ?_; (case hp => first | assumption | exact Nat.succ_pos _ | exact Nat.lt_of_lt_of_le (by assumption) (Nat.le_add_right _ _) | omega); intro tk' htk'))
local macro_rules | `(tactic| walk_at "execs nil") => `(tactic| refine wpAny_execs_nil ?_)
theorem newsPtr {h₀ h h' : Heap} {L x : Addr} {m : Str → Option Value} {news : List (Addr × Obj)} {ps : List (List Nat)} (F : Fr h₀ L h m) (N : News h₀ L h' news) (P : NewPtr h h' x ps) :
    ∃ dx l vs c tk n hs, LS vs ps ∧ News h₀ L h' ((x, instObj 205 dx) :: (dx, dictOf [⟨hs, .str (Str.ofString "parts") tk, .ref l⟩] n) :: (l, W.listOf vs.toArray c) :: news) := by
  obtain ⟨dx, l, vs, c, tk, n, hs, a, b, d, e, n1, n2, n3⟩ := P
  exact ⟨dx, l, vs, c, tk, n, hs, e, newsAdd F (newsAdd F (newsAdd F N n3 d) n2 b) n1 a⟩
theorem ptrOfNews {h₀ h : Heap} {L x dx l : Addr} {news : List (Addr × Obj)} {ps : List (List Nat)} {vs : List Value} {c n : Nat} {tk : Tok} {hs : Int} (hvs : LS vs ps)
    (N : News h₀ L h ((x, instObj 205 dx) :: (dx, dictOf [⟨hs, .str (Str.ofString "parts") tk, .ref l⟩] n) :: (l, W.listOf vs.toArray c) :: news)) : NewPtr h₀ h x ps :=
  ⟨dx, l, vs, c, tk, n, hs, (N _ (.head _)).1, (N _ (.tail _ (.head _))).1, (N _ (.tail _ (.tail _ (.head _)))).1, hvs, (N _ (.head _)).2.2, (N _ (.tail _ (.head _))).2.2, (N _ (.tail _ (.tail _ (.head _)))).2.2⟩
theorem hidList {h : Heap} {a : Addr} {its : Array Value} (I : h.IsList a its) (t : Tabs3 h) : (hid h).IsList a its := by
  obtain ⟨o, ho, hc, r⟩ := I
  exact ⟨o, hideAll_get _ ho (t.not ho (by rw [hc]; simp)), hc, r⟩
section
variable {w : World} {A : Around} {E : Value → Shared → Prop} {s : Shared} {loose : List Str} {mg mb : Str → Option Value}
theorem from_code {a : Addr} {vs : List Value} {ps : List (List Nat)} {R : Result → Shared → Prop} (C : Cg w loose mg mb s) (I : s.heap.IsList a vs.toArray) (hvs : LS vs ps) (hu : A.units + 200 < cLine) (hdp : A.depth + 10 < recursionLimit) (hh : A.handled = none) (hl : (pathOf ps).length ≤ 100000)
    (h : ∀ x s', KeepsT s s' → NewPtr (hid s.heap) s'.heap x ps → R (.ok (.ret (.ref x))) s') : codeAny (model prog w) A (.call (.ref 199) ⟨[.ref 205, .ref a], []⟩) R s := by
  obtain ⟨cx, ct, cb, ck⟩ := C
  have C0 := cx.hid ct
  have I0 := hidList I ct
  have hn0 : ∀ b ∈ tabs, (hid s.heap).get? b = none := fun b hb => hid_none hb
  have hs0 := hid_size s.heap
  have hk0 : ∀ b o, (hid s.heap).get? b = some o → s.heap.get? b = some o := fun b o e => of_hideAll _ e
  have hh0 : ∀ b o, b ∉ tabs → s.heap.get? b = some o → (hid s.heap).get? b = some o := fun b o hb e => hideAll_get _ e hb
  obtain ⟨p, q, r, trip, e1, e2, e3⟩ := ct
  generalize hid s.heap = h₀ at *
  obtain ⟨X, T, bm, ob, M⟩ := C0
  obtain ⟨hh₀, g, d, tk, os⟩ := s
  dsimp only at *
  refine' enterC (h₀ := h₀) (news := tab3 p q r) (binds := [(Str.ofString "cls", .ref 205), (Str.ofString "parts", .ref a)]) X T.nolimit hk0 ?h0 ?hn ?h1 ?h2 ?hr ?h3 ?h4 ?_ ?h5 ?h6 ?h7 ?h8
  case h1 => k_is
  case h2 => k_is
  case h3 => exact BindsTo.of_eq rfl
  case h4 => exact locs rfl
  case h5 => decide
  case h6 => exact rfl
  case h7 => exact rfl
  case h8 => exact rfl
  case h0 => exact Nat.le_of_eq hs0
  case hr => omega
  case hn =>
    intro y hy
    rcases List.mem_cons.mp hy with rfl | hy
    · exact ⟨e1, hn0 _ (.head _)⟩
    rcases List.mem_cons.mp hy with rfl | hy
    · exact ⟨e2, hn0 _ (.tail _ (.head _))⟩
    rw [List.mem_singleton.mp hy]
    exact ⟨e3, hn0 _ (.tail _ (.tail _ (.head _)))⟩
  intro h₁ F N
  dsimp only
  walk_at "m go"
  refine wpAny_with_toks (n := 1) (by assumption) ?_
  refine compS (h₀ := h₀) (f := esc) (by with_unfolding_all rfl) (by decide) (by decide) rfl (by decide) rfl rfl rfl hh ?_ (fun _ => rfl)
  walk_at "m go"
  refine ⟨a, vs, ps, _, _, rfl, I0.at fun o e => F.keep _ _ e, hvs, ?_, F, N, ?_, ?_⟩
  · have h1 := hvs.length
    have h2 := pathOf_count ps
    rw [sizeLine_eq]; omega
  · intro C u tu s₃ m₃ E' hu hn hm hk htk
    have X3 := X.keeps (fun b o e => hk b o (F.keep b o e))
    have T3 := T.keeps (fun b o e => hk b o (F.keep b o e))
    have hul := pathOf_mem hu
    refine Call_ ?_
    refine' nameG X3 T3 ?n1 ?_ ?n2 ?n3 ?n4 ?n5
    case n1 => k_is
    case n2 => exact rfl
    case n3 => exact rfl
    case n4 => exact rfl
    case n5 => decide
    refine' callWith_K X3 ?kp ?_
    case kp => k_is
    refine spliced_cons ?_
    refine Call_ ?_
    refine' nameB (v := .type "str") X3 T3 ?m1 rfl ?m2 ?_ ?m3 ?m4 ?m5 ?m6 ?m7
    case m1 => k_is
    case m2 => decide
    case m3 => exact rfl
    case m4 => exact rfl
    case m5 => exact rfl
    case m6 => exact rfl
    case m7 => decide
    walk1
    refine spliced_cons ?_
    refine nameL hn hm ?_ rfl rfl (by decide)
    refine spliced_nil ?_
    refine PySem.P.str_of_str ?_
    refine spliced_nil ⟨X3, ?_⟩
    exact escape_spec X3 T3 (by rw [depth_deeper]; omega) (by omega)
  · intro D h6 tk7 ys c F6 N6 hys hD hk6 htk7
    walk_at "m go"
    refine wpAny_with_toks (n := 1) (Nat.succ_pos _) ?_
    refine genexpT (c := 198) (P := 196) (h₀ := h₀) rfl hh rfl (by with_unfolding_all rfl) (by decide) (by decide +kernel) (by decide +kernel) rfl (by rw [depth_deeper]; omega) ?_ (fun _ => by with_unfolding_all rfl)
    walk_at "m go"
    refine ⟨D, ys.toArray, fun j v => ∃ u, v = .str (S (((ps.map esc).map (47 :: ·)).getD j [])) u, rfl, PySem.IsL.isList (N6 _ (.head _)).1, Tab.of (X.keeps F6.keep) (hd2 w) (N6 _ (.tail _ (.tail _ (.head _)))).1 trip.2.1, F6.keep, hn0 _ (.tail _ (.head _)), T.nolimit, ⟨_, _, _, M⟩, cb, ?_, ?_⟩
    · intro C code A' E' i v t m₂ hA hD hU hi hn hm hk
      obtain ⟨th, tg, td, ttk, tos⟩ := t
      dsimp only at hn hk ⊢
      exact eltE hys hi hn hm rfl rfl (by decide) litS (fun l hl' => Nat.le_trans (pathOf_esc hl') hl)
    · intro y s₅ tb k5 sz5 b5 o5 d5 G5 htk5
      refine spliced_nil ?_
      refine joinT (fun j => S (((ps.map esc).map (47 :: ·)).getD j [])) htk5 G5 b5 (fun j v hv => hv) ?_ (fun s' t' k6 b6 o6 d6 tk6 => ?_) ?_
      · rw [range_S (by rw [List.size_toArray, List.length_map]; exact hys.length)]
        exact joinOkE (by rw [pathOf_flat]; omega)
      · rw [range_S (by rw [List.size_toArray, List.length_map]; exact hys.length), joinE, pathOf_flat]
        have K := keepsTmid (s := ⟨h6, g, d, tk7, os⟩) (s' := s') (newsTabs (rest := [(D, W.listOf ys.toArray c)]) N6 trip) (.tail _ (.head _)) k5 tb.get k6 b6 tk6 (o6.trans o5) (d6.trans d5)
        obtain ⟨p', q', r', trip', N7⟩ := newsT (rest := [(D, W.listOf ys.toArray c)]) (s := ⟨h6, g, d, tk7, os⟩) N6 (notTab (rest := [(D, W.listOf ys.toArray c)]) N6 trip (by intro y hy; rw [List.mem_singleton.mp hy]; simp)) K
        have F7 := frT (s := ⟨h6, g, d, tk7, os⟩) F6 hn0 (notL (rest := [(D, W.listOf ys.toArray c)]) N6) K
        have o7 := o6.trans o5
        have d7 := d6.trans d5
        obtain ⟨h7, g7, d7', tk8, os7⟩ := s'
        dsimp only at *
        subst o7 d7
        clear k5 k6 tb G5 K F6 N6 hk6
        walk_at "m go"
        refine' useK ?sp ?d3 ?_
        case sp => exact ptr_spec (X.keeps F7.keep) (T.keeps F7.keep) (by rw [depth_deeper]; omega) (by rw [units_deeper]; omega) hh tk6 (by omega) (valid_pathOf ps)
        case d3 => assumption
        intro v h8 tk9 hv hk8 htk9
        obtain ⟨y, rfl, hy⟩ := hv
        rw [toksOf_pathOf] at hy
        have F8 := frK F7 hk8
        have N8 := newsK N7 hk8
        obtain ⟨dx, l, us, cu, tku, n, hs, hus, N9⟩ := newsPtr F7 N8 hy
        clear N8 N7 hy F7
        dsimp only at F8 N9 ⊢
        simp only [List.cons_append, List.nil_append] at N9
        walk_at "m go"
        rename_i h9 F9 N9' tka htka
        exact h y _ (keepsTfin (rest := [(y, instObj 205 dx), (dx, dictOf [⟨hs, .str (Str.ofString "parts") tku, .ref l⟩] n), (l, W.listOf us.toArray cu), (D, W.listOf ys.toArray c)]) hh0 F9 N9' trip' b6 (by assumption) rfl rfl) (ptrOfNews hus N9')
      · have h1 := hys.length
        have h2 := pathOf_count ps
        rw [List.length_map] at h1
        rw [List.size_toArray, sizeLine_eq]; omega
end
end Mine

end
section
open PySem PySem.W PySem.Calls PyProof.Rows
open PySem.Builtin PySem.Builtin.Str
set_option Elab.async false
set_option maxRecDepth 100000
set_option maxHeartbeats 400000
namespace Mine
theorem fill_it11 (P : (OpenLaw → (Params → Frag) → Prop)) (h : P PySem.Challenge.rw_jh0011_01 hd.heap_39) : P PySem.Challenge.rw_jh0011_01 hd.heap_39 := by
  k_fill
  exact h
local macro_rules | `(tactic| walk_at "m go") => `(tactic| repeat (first | ((with_reducible show wpAny _ _ _ _ _ _); (fail_if_success (with_reducible show wpAny _ _ (PySem.exec (Stmt.For _ _ _ _ _) _) _ _ _)); (fail_if_success (with_reducible show wpAny _ _ (PySem.call (Value.ref _) _ _) _ _ _)); (fail_if_success (with_reducible show wpAny _ _ (PySem.getAttr (Value.ref _) _ _) _ _ _)); (fail_if_success (with_reducible show wpAny _ _ (PySem.eval (Expr.GeneratorExp _ _ _ _) _) _ _ _)); (fail_if_success (with_reducible show wpAny _ _ (PySem.exec (Stmt.Assign _ (Expr.ListComp _ _ _ _) _) _) _ _ _)); walk1; (try dsimp only)) | (with_reducible refine And.intro (Frag.In.keeps (by assumption) (Fr.keep (by assumption))) ?_) | (with_reducible refine split_not ?_) | (with_reducible refine ite_tt ?_) | (with_reducible refine ite_ff ?_)))
local macro_rules | `(tactic| walk_at "execs cons") => `(tactic| (refine execs_consG ?hp ?_; (case hp => first | assumption | exact Nat.succ_pos _ | exact Nat.lt_of_lt_of_le (by assumption) (Nat.le_add_right _ _) | omega); intro tk' htk'))
local macro_rules | `(tactic| walk_at "execs nil") => `(tactic| refine wpAny_execs_nil ?_)
/-- a value whose str is this text -/
def Item (v : Value) (q : List Nat) : Prop := (∃ t, v = .str (S q) t) ∨ ∃ (n : Int) (t : Tok), v = .int n t ∧ -1000000 < n ∧ n < 1000000 ∧ q = (Str.ofString (toString n)).cps.toList
def IS (vs : List Value) (qs : List (List Nat)) : Prop := vs.length = qs.length ∧ ∀ (i : Nat) (v : Value) (q : List Nat), vs[i]? = some v → qs[i]? = some q → Item v q
theorem LS.items {vs : List Value} {qs : List (List Nat)} (h : LS vs qs) : IS vs qs := by
  refine ⟨h.length, fun i v q hv hq => ?_⟩
  obtain ⟨t, ht⟩ := h.get hq
  rw [hv] at ht
  exact .inl ⟨t, Option.some.inj ht⟩
theorem IS.snoc {vs : List Value} {qs : List (List Nat)} (h : IS vs qs) {v : Value} {q : List Nat} (hi : Item v q) : IS (vs ++ [v]) (qs ++ [q]) := by
  refine ⟨by simp [h.1], fun i w r hw hr => ?_⟩
  by_cases hlt : i < vs.length
  · rw [List.getElem?_append_left hlt] at hw
    rw [List.getElem?_append_left (h.1 ▸ hlt)] at hr
    exact h.2 i w r hw hr
  · have hi' : i = vs.length := by
      have := (List.getElem?_eq_some_iff.mp hw).1
      simp at this; omega
    subst hi'
    rw [List.getElem?_append_right (Nat.le_refl _)] at hw
    rw [h.1, List.getElem?_append_right (Nat.le_refl _)] at hr
    simp at hw hr
    subst hw hr
    exact hi
local macro_rules | `(tactic| walk_at "m el") => `(tactic| repeat ((with_reducible show wpAny _ _ _ _ _ _); (fail_if_success (with_reducible show wpAny _ _ (PySem.eval (Expr.Name _ _) _) _ _ _)); (fail_if_success (with_reducible show wpAny _ _ (PySem.call (Value.type _) _ _) _ _ _)); walk1; (try dsimp only)))
section
variable {w : World} {A : Around} {E : Value → Shared → Prop} {s : Shared} {loose : List Str} {mg mb : Str → Option Value}
theorem strItem {v : Value} {q : List Nat} {Q : Value → Shared → Prop} (h : Item v q) (hq : ∀ t tk, s.toks ≤ tk → Q (.str (S q) t) { s with toks := tk }) : wpAny (model prog w) A (call (.type "str") [v]) Q E s := by
  rcases h with ⟨t, rfl⟩ | ⟨n, t, rfl, h1, h2, rfl⟩
  · exact PySem.P.str_of_str (hq _ _ (Nat.le_refl _))
  · refine str_of_int_fit (N := 1000000) (by split <;> omega) (by decide) fun _ => ?_
    have e := hq s.toks (s.toks + 1) (Nat.le_succ _)
    rw [S_of] at e
    exact e
theorem to_code {a : Addr} {vs : List Value} {ps : List (List Nat)} {R : Result → Shared → Prop} (C : Cg w loose mg mb s) (I : s.heap.IsList a vs.toArray) (hvs : IS vs ps) (hdp : A.depth + 10 < recursionLimit) (hh : A.handled = none) (hl : (pathOf ps).length ≤ 100000)
    (h : ∀ t s', KeepsT s s' → R (.ok (.ret (.str (S (pathOf ps)) t))) s') : codeAny (model prog w) A (.call (.ref 244) ⟨[.ref a], []⟩) R s := by
  obtain ⟨cx, ct, cb, ck⟩ := C
  have C0 := cx.hid ct
  have I0 := hidList I ct
  have hn0 : ∀ b ∈ tabs, (hid s.heap).get? b = none := fun b hb => hid_none hb
  have hs0 := hid_size s.heap
  have hk0 : ∀ b o, (hid s.heap).get? b = some o → s.heap.get? b = some o := fun b o e => of_hideAll _ e
  have hh0 : ∀ b o, b ∉ tabs → s.heap.get? b = some o → (hid s.heap).get? b = some o := fun b o hb e => hideAll_get _ e hb
  obtain ⟨p, q, r, trip, e1, e2, e3⟩ := ct
  generalize hid s.heap = h₀ at *
  obtain ⟨X, T, bm, ob, M⟩ := C0
  obtain ⟨hh₀, g, d, tk, os⟩ := s
  dsimp only at *
  refine' enterC (h₀ := h₀) (news := tab3 p q r) (binds := [(Str.ofString "path", .ref a)]) X T.nolimit hk0 ?h0 ?hn ?h1 ?h2 ?hr ?h3 ?h4 ?_ ?h5 ?h6 ?h7 ?h8
  case h1 => k_is
  case h2 => k_is
  case h3 => exact BindsTo.of_eq rfl
  case h4 => exact locs rfl
  case h5 => decide
  case h6 => exact rfl
  case h7 => exact rfl
  case h8 => exact rfl
  case h0 => exact Nat.le_of_eq hs0
  case hr => omega
  case hn =>
    intro y hy
    rcases List.mem_cons.mp hy with rfl | hy
    · exact ⟨e1, hn0 _ (.head _)⟩
    rcases List.mem_cons.mp hy with rfl | hy
    · exact ⟨e2, hn0 _ (.tail _ (.head _))⟩
    rw [List.mem_singleton.mp hy]
    exact ⟨e3, hn0 _ (.tail _ (.tail _ (.head _)))⟩
  intro h₁ F N
  dsimp only
  walk_at "m go"
  refine wpAny_with_toks (n := 1) (Nat.succ_pos _) ?_
  refine genexpT (c := 243) (P := 239) (h₀ := h₀) rfl hh rfl (by with_unfolding_all rfl) (by decide) (by decide +kernel) (by decide +kernel) rfl (by rw [depth_deeper]; omega) ?_ (fun _ => by with_unfolding_all rfl)
  walk_at "m go"
  refine ⟨a, vs.toArray, fun j v => ∃ u, v = .str (S (((ps.map esc).map (47 :: ·)).getD j [])) u, rfl, I0.at fun o e => F.keep _ _ e, Tab.of (X.keeps F.keep) (hd3 w) (N _ (.tail _ (.tail _ (.head _)))).1 trip.2.2, F.keep, hn0 _ (.tail _ (.tail _ (.head _))), T.nolimit, ⟨_, _, _, M⟩, cb, ?_, ?_⟩
  · intro C code A' E' i v t m₂ hA hD hU hi hn hm hk
    obtain ⟨th, tg, td, ttk, tos⟩ := t
    dsimp only at hn hk ⊢
    have k2 : ∀ b o, h₀.get? b = some o → th.get? b = some o := fun b o e => hk b o (fun hb => by rw [hb, hn0 239 (.tail _ (.tail _ (.head _)))] at e; cases e) (F.keep b o e)
    have X2 := X.keeps k2
    have T2 := T.keeps k2
    clear F N hk
    refine wpAny_BinOp (Constant_str ?_)
    dsimp only
    walk_at "m el"
    refine' nameB (v := .type "str") X2 T2 ?m1 rfl ?m2 ?_ ?m3 ?m4 ?m5 ?m6 ?m7
    case m1 => k_is
    case m2 => decide
    case m3 => exact rfl
    case m4 => exact rfl
    case m5 => exact rfl
    case m6 => exact rfl
    case m7 => decide
    walk_at "m el"
    refine nameL hn hm ?_ rfl rfl (by decide)
    refine spliced_nil ?_
    have hi' : vs[i]? = some v := by simpa using hi
    have hlt : i < ps.length := by rw [← hvs.1]; exact (List.getElem?_eq_some_iff.mp hi').1
    have hit := hvs.2 i v ps[i] hi' (List.getElem?_eq_getElem hlt)
    have hln := pathOf_mem (List.getElem_mem hlt)
    have hge : (((ps.map esc).map (47 :: ·)).getD i []) = [47] ++ esc ps[i] := by simp [List.getD_eq_getElem?_getD, hlt]
    have hel := esc_length ps[i]
    rw [hge]
    generalize ps[i] = pi at *
    refine strItem hit fun t1 tk1 htk1 => ?_
    dsimp only
    walk_at "m el"
    have hp1 : 0 < tk1 := Nat.lt_of_lt_of_le (Nat.succ_pos _) htk1
    refine replaceP (Nat.succ_pos _) hp1 (Nat.lt_succ_self _) (by decide +kernel) (by rw [S_length]; omega) (by decide +kernel) fun t2 k2 hk2 => ?_
    dsimp only
    walk_at "m el"
    refine replaceP (Nat.succ_pos _) hk2 (Nat.lt_succ_self _) (by decide +kernel) (Nat.le_trans (esc1_len pi) (by omega)) (by decide +kernel) fun t3 k3 hk3 => ?_
    rw [esc_val, litS]
    dsimp only
    refine addS (by rw [List.length_singleton]; omega) fun t' tk' => ⟨⟨t', rfl⟩, ⟨_, _, rfl, fun _ _ e => e⟩⟩
  · intro y s₅ tb k5 sz5 b5 o5 d5 G5 htk5
    have hsz : vs.toArray.size = ((ps.map esc).map (47 :: ·)).length := by rw [List.size_toArray, List.length_map, List.length_map]; exact hvs.1
    refine spliced_nil ?_
    refine joinT (fun j => S (((ps.map esc).map (47 :: ·)).getD j [])) htk5 G5 b5 (fun j v hv => hv) ?_ (fun s' t' k6 b6 o6 d6 tk6 => ?_) ?_
    · rw [range_S hsz]
      exact joinOkE (by rw [pathOf_flat]; omega)
    · rw [range_S hsz, joinE, pathOf_flat]
      have K := keepsTmid (s := ⟨h₁, g, d, tk, os⟩) (s' := s') (newsTabs (rest := []) N trip) (.tail _ (.tail _ (.head _))) k5 tb.get k6 b6 tk6 (o6.trans o5) (d6.trans d5)
      obtain ⟨p', q', r', trip', N7⟩ := newsT (rest := []) (s := ⟨h₁, g, d, tk, os⟩) N (fun _ h => nomatch h) K
      exact h t' s' (keepsTfin (rest := []) hh0 (frT (s := ⟨h₁, g, d, tk, os⟩) F hn0 (notL (rest := []) N) K) N7 trip' b6 tk6 (o6.trans o5) (d6.trans d5))
    · have h1 := hvs.1
      have h2 := pathOf_count ps
      rw [List.size_toArray, sizeLine_eq]; omega
/-- path_join -/
theorem join_code {a : Addr} {vs : List Value} {ps : List (List Nat)} {Q : Value → Shared → Prop} (C : Cg w loose mg mb s) (I : s.heap.IsList a vs.toArray) (hvs : IS vs ps) (hdp : A.depth + 12 < recursionLimit) (hh : A.handled = none) (hl : (pathOf ps).length ≤ 100000)
    (h : ∀ t s', KeepsT s s' → Q (.str (S (pathOf ps)) t) s') : wpAny (model prog w) A (call (.ref 237) [.ref a]) Q E s := by
  refine wpAny_call ?_
  obtain ⟨cx, ct, cb, ck⟩ := C
  have C0 := cx.hid ct
  have I0 := hidList I ct
  have hn0 : ∀ b ∈ tabs, (hid s.heap).get? b = none := fun b hb => hid_none hb
  have hs0 := hid_size s.heap
  have hk0 : ∀ b o, (hid s.heap).get? b = some o → s.heap.get? b = some o := fun b o e => of_hideAll _ e
  have hh0 : ∀ b o, b ∉ tabs → s.heap.get? b = some o → (hid s.heap).get? b = some o := fun b o hb e => hideAll_get _ e hb
  obtain ⟨p, q, r, trip, e1, e2, e3⟩ := ct
  generalize hid s.heap = h₀ at *
  have X := C0.X
  have T := C0.T
  obtain ⟨hh₀, g, d, tk, os⟩ := s
  dsimp only at *
  refine' enterC (h₀ := h₀) (news := tab3 p q r) (binds := [(Str.ofString "parts", .ref a)]) X T.nolimit hk0 ?h0 ?hn ?h1 ?h2 ?hr ?h3 ?h4 ?_ ?h5 ?h6 ?h7 ?h8
  case h1 => k_is
  case h2 => k_is
  case h3 => exact BindsTo.of_eq rfl
  case h4 => exact locs rfl
  case h5 => decide
  case h6 => exact rfl
  case h7 => exact rfl
  case h8 => exact rfl
  case h0 => exact Nat.le_of_eq hs0
  case hr => omega
  case hn =>
    intro y hy
    rcases List.mem_cons.mp hy with rfl | hy
    · exact ⟨e1, hn0 _ (.head _)⟩
    rcases List.mem_cons.mp hy with rfl | hy
    · exact ⟨e2, hn0 _ (.tail _ (.head _))⟩
    rw [List.mem_singleton.mp hy]
    exact ⟨e3, hn0 _ (.tail _ (.tail _ (.head _)))⟩
  intro h₁ F N
  dsimp only
  walk_at "m go"
  refine wpAny_call (to_code (loose := loose) (mg := mg) (mb := mb) ⟨C0.keeps F.keep, newsTabs (rest := []) N trip, cb, by assumption⟩ (I0.at fun o e => F.keep _ _ e) hvs (by rw [depth_deeper]; omega) hh hl fun t s' K => ?_)
  obtain ⟨p', q', r', trip', N7⟩ := newsT (rest := []) N (fun _ h => nomatch h) K
  exact h t s' (keepsTfin (rest := []) hh0 (frT F hn0 (notL (rest := []) N) K) N7 trip' K.bare K.tk K.os K.drawn)
end
end Mine

end
section
open PySem PySem.W PySem.Calls PyProof.Rows
open PySem.Builtin PySem.Builtin.Str
set_option Elab.async false
set_option maxRecDepth 100000
set_option maxHeartbeats 400000
namespace Mine
theorem fill_it12 (P : (OpenLaw → (Params → Frag) → Prop)) (h : P PySem.Challenge.rw_jh0011_01 hd.heap_39) : P PySem.Challenge.rw_jh0011_01 hd.heap_39 := by
  k_fill
  exact h
local macro_rules | `(tactic| walk_at "m go") => `(tactic| repeat (first | ((with_reducible show wpAny _ _ _ _ _ _); (fail_if_success (with_reducible show wpAny _ _ (PySem.exec (Stmt.For _ _ _ _ _) _) _ _ _)); (fail_if_success (with_reducible show wpAny _ _ (PySem.call (Value.ref _) _ _) _ _ _)); (fail_if_success (with_reducible show wpAny _ _ (PySem.compareOp _ (Value.ref _) (Value.ref _)) _ _ _)); (fail_if_success (with_reducible show wpAny _ _ (PySem.getAttr (Value.ref _) _ _) _ _ _)); (fail_if_success (with_reducible show wpAny _ _ (PySem.eval (Expr.GeneratorExp _ _ _ _) _) _ _ _)); (fail_if_success (with_reducible show wpAny _ _ (PySem.exec (Stmt.Assign _ (Expr.ListComp _ _ _ _) _) _) _ _ _)); walk1; (try dsimp only)) | (with_reducible refine And.intro (Frag.In.keeps (by assumption) (Fr.keep (by assumption))) ?_) | (with_reducible refine split_not ?_) | (with_reducible refine ite_tt ?_) | (with_reducible refine ite_ff ?_)))
local macro_rules | `(tactic| walk_at "execs cons") => `(tactic| (refine execs_consG ?hp ?_; (case hp => first | assumption | exact Nat.succ_pos _ | exact Nat.lt_of_lt_of_le (by assumption) (Nat.le_add_right _ _) | omega); intro tk' htk'))
local macro_rules | `(tactic| walk_at "execs nil") => `(tactic| refine wpAny_execs_nil ?_)
section
variable {w : World} {A : Around} {E : Value → Shared → Prop} {s : Shared} {loose : List Str} {mg mb : Str → Option Value}
theorem takeL {h₀ hp : Heap} {g : Array GenState} {d : Drawn} {tk : Nat} {os : OsState} {L l : Addr} {m : Str → Option Value} {news : List (Addr × Obj)} {vs : List Value} {k : Nat} {u : Tok} {value slice : Expr} {Q : Value → Shared → Prop} (F : Fr h₀ L hp m) (N : News h₀ L hp news) (hl : hp.IsList l vs.toArray) (hz : vs.length ≤ 100000)
    (h : ∀ D h', Fr h₀ L h' m → News h₀ L h' ((D, W.listOf (vs.take k).toArray 0) :: news) → (∀ p ∈ news, p.1 < D) → Q (.ref D) ⟨h', g, d, tk, os⟩)
    (hs : subscripted slice false (.ref l) (.ref hp.objs.size) = operate [.ref hp.objs.size, .ref l] (getItem (.ref l) (.ref hp.objs.size))) (ht : ∀ r, letTemporaryGo value (.ref l) r = pure ()) :
    wpAny (model prog w) A (subscriptTail value slice (.ref l) (.ref hp.objs.size)) Q E ⟨hp.push { cls := .type "slice", data := .fields #[.none, .int (k : Int) u, .none] }, g, d, tk, os⟩ := by
  refine kms_slice_lit (s := ⟨hp, g, d, tk, os⟩) F N hl .none (.int _ _) ?_ h hs ht (by rw [List.size_toArray, sizeLine_eq]; omega)
  unfold kms_pick kms_lo kms_hi
  dsimp only
  rw [if_neg (by omega), List.drop_zero, Int.toNat_natCast, Nat.sub_zero]
  by_cases hk : k ≤ vs.length
  · rw [Nat.min_eq_left hk]
  · rw [Nat.min_eq_right (by omega), List.take_of_length_le (Nat.le_refl _), List.take_of_length_le (by omega)]
theorem isiPtr {x : Addr} {ps : List (List Nat)} {Q : Value → Shared → Prop} (X : (hd.heap_39 w.params).In s.heap) (P : PtrIn s.heap x ps) (h : Q (.bool true) s) : wpAny (model prog w) A (call (.builtin "isinstance") [.ref x, .ref 205]) Q E s := by
  obtain ⟨dx, l, vs, c, tk, n, hs, a, b, _, _⟩ := P
  have k1 : isIn (hd.heap_39 w.params) (.ref 205) 205 = true := by k_is
  exact isi_call X (fun M => InstAt.type (C := 205) (od := some (dictOf [⟨hs, .str (Str.ofString "parts") tk, .ref l⟩] n)) ⟨a, rfl, rfl, b⟩) k1 (fun e => by cases e) h
theorem contains_spec {x y : Addr} {ps qs : List (List Nat)} (X : (hd.heap_39 w.params).In s.heap) (T : TopRead Mine.view0 loose mg mb s.heap) (hdp : A.depth < recursionLimit) (hu : A.units + 100 < cLine) (P1 : PtrIn s.heap x ps) (P2 : PtrIn s.heap y qs) (hl : ps.length ≤ 100000) (hm : qs.length ≤ 100000) (a7 : A7L ps) (b7 : A7L qs) :
    wpAny (model prog w) A (call (.ref 153) [.ref x, .ref y]) (fun v s' => v = .bool (decide (ps.take qs.length = qs)) ∧ Keeps s s') E s := by
  refine' enterK (binds := [(Str.ofString "self", .ref x), (Str.ofString "ptr", .ref y)]) X T.nolimit ?h1 ?h2 hdp ?h3 ?h4 ?_ ?h5 ?h6 ?h7 ?h8
  case h1 => k_is
  case h2 => k_is
  case h3 => exact BindsTo.of_eq rfl
  case h4 => exact locs rfl
  case h5 => decide
  case h6 => exact rfl
  case h7 => exact rfl
  case h8 => exact rfl
  intro h₁ F N
  refine wpAny_execs_cons ?_
  walk_at "m go"
  refine getParts (X.keeps F.keep) (P1.keeps F.keep) fun l1 vs c1 g1 hvs => ?_
  dsimp only
  walk_at "m go"
  refine getParts (X.keeps F.keep) (P2.keeps F.keep) fun l2 us c2 g2 hus => ?_
  dsimp only
  walk_at "m go"
  refine lenL (PySem.IsL.isList g2) hus hm ?_
  dsimp only
  walk_at "m go"
  refine' takeL F N (PySem.IsL.isList g1) (by rw [hvs.length]; omega) ?tk ?ths ?tht
  case ths => with_unfolding_all rfl
  case tht => intro _; with_unfolding_all rfl
  intro D h2 F2 N2 _
  walk_at "m go"
  refine getParts (X.keeps F2.keep) (P2.keeps F2.keep) fun l3 ws c3 g3 hws => ?_
  dsimp only
  walk_at "m go"
  refine eqLists (PySem.IsL.isList (N2 _ (.head _)).1) (PySem.IsL.isList g3) (hvs.take _) hws (fun z hz => a7 z (List.mem_of_mem_take hz)) b7 (by rw [units_deeper]; omega) ?_
  exact ⟨rfl, keepsOf F2⟩
theorem eq_spec {x y : Addr} {ps qs : List (List Nat)} (X : (hd.heap_39 w.params).In s.heap) (T : TopRead Mine.view0 loose mg mb s.heap) (hdp : A.depth < recursionLimit) (hu : A.units + 100 < cLine) (P1 : PtrIn s.heap x ps) (P2 : PtrIn s.heap y qs) (a7 : A7L ps) (b7 : A7L qs) :
    wpAny (model prog w) A (call (.ref 187) [.ref x, .ref y]) (fun v s' => v = .bool (decide (ps = qs)) ∧ Keeps s s') E s := by
  refine' enterK (binds := [(Str.ofString "self", .ref x), (Str.ofString "other", .ref y)]) X T.nolimit ?h1 ?h2 hdp ?h3 ?h4 ?_ ?h5 ?h6 ?h7 ?h8
  case h1 => k_is
  case h2 => k_is
  case h3 => exact BindsTo.of_eq rfl
  case h4 => exact locs rfl
  case h5 => decide
  case h6 => exact rfl
  case h7 => exact rfl
  case h8 => exact rfl
  intro h₁ F N
  refine wpAny_execs_cons ?_
  walk_at "m go"
  refine isiPtr (X.keeps F.keep) (P2.keeps F.keep) ?_
  walk_at "m go"
  refine getParts (X.keeps F.keep) (P1.keeps F.keep) fun l1 vs c1 g1 hvs => ?_
  dsimp only
  walk_at "m go"
  refine getParts (X.keeps F.keep) (P2.keeps F.keep) fun l2 us c2 g2 hus => ?_
  dsimp only
  walk_at "m go"
  refine eqLists (PySem.IsL.isList g1) (PySem.IsL.isList g2) hvs hus a7 b7 (by rw [units_deeper]; omega) ?_
  exact ⟨rfl, keepsOf F⟩
end
end Mine

end
section
open PySem PySem.W PySem.Calls PyProof.Rows
open PySem.Builtin PySem.Builtin.Str
set_option Elab.async false
set_option maxRecDepth 100000
set_option maxHeartbeats 400000
namespace Mine
theorem fill_it13 (P : (OpenLaw → (Params → Frag) → Prop)) (h : P PySem.Challenge.rw_jh0011_01 hd.heap_39) : P PySem.Challenge.rw_jh0011_01 hd.heap_39 := by
  k_fill
  exact h
local macro_rules | `(tactic| walk_at "m go") => `(tactic| repeat (first | ((with_reducible show wpAny _ _ _ _ _ _); (fail_if_success (with_reducible show wpAny _ _ (PySem.exec (Stmt.For _ _ _ _ _) _) _ _ _)); (fail_if_success (with_reducible show wpAny _ _ (PySem.call (Value.ref _) _ _) _ _ _)); (fail_if_success (with_reducible show wpAny _ _ (PySem.compareOp _ (Value.ref _) (Value.ref _)) _ _ _)); (fail_if_success (with_reducible show wpAny _ _ (PySem.call (Value.type _) _ _) _ _ _)); (fail_if_success (with_reducible show wpAny _ _ (PySem.binaryOp _ (Value.ref _) (Value.ref _)) _ _ _)); (fail_if_success (with_reducible show wpAny _ _ (PySem.exec (Stmt.Try _ _ _ _ _) _) _ _ _)); (fail_if_success (with_reducible show wpAny _ _ (PySem.getAttr (Value.ref _) _ _) _ _ _)); (fail_if_success (with_reducible show wpAny _ _ (PySem.eval (Expr.GeneratorExp _ _ _ _) _) _ _ _)); (fail_if_success (with_reducible show wpAny _ _ (PySem.exec (Stmt.Assign _ (Expr.ListComp _ _ _ _) _) _) _ _ _)); walk1; (try dsimp only)) | (with_reducible refine And.intro (Frag.In.keeps (by assumption) (Fr.keep (by assumption))) ?_) | (with_reducible refine split_not ?_) | (with_reducible refine ite_tt ?_) | (with_reducible refine ite_ff ?_)))
local macro_rules | `(tactic| walk_at "execs cons") => `(tactic| (refine execs_consG ?hp ?_; (case hp => first | assumption | exact Nat.succ_pos _ | exact Nat.lt_of_lt_of_le (by assumption) (Nat.le_add_right _ _) | omega); intro tk' htk'))
local macro_rules | `(tactic| walk_at "execs nil") => `(tactic| refine wpAny_execs_nil ?_)
section
variable {w : World} {A : Around} {E : Value → Shared → Prop} {s : Shared} {loose : List Str} {mg mb : Str → Option Value}
theorem getPartsB {h₀ : Heap} {x : Addr} {ps : List (List Nat)} {e : Bool} {Q : Value → Shared → Prop} (X : (hd.heap_39 w.params).In s.heap) (P : PtrIn h₀ x ps) (k : ∀ b o, h₀.get? b = some o → s.heap.get? b = some o)
    (h : ∀ l vs c, h₀.get? l = some (W.listOf vs.toArray c) → LS vs ps → Q (.ref l) { s with toks := s.toks + 1 }) : wpAny (model prog w) A (getAttr (.ref x) (Str.ofString "parts") e) Q E s := by
  obtain ⟨dx, l, vs, c, tk, n, hs, a, b, d, g⟩ := P
  have k1 : plainGet (hd.heap_39 w.params) 205 (Str.ofString "parts") = true := by k_is
  have k2 : hasDictIn (hd.heap_39 w.params) 205 = true := by k_is
  have k3 : findIn (hd.heap_39 w.params) (.ref 205) (Str.ofString "parts") = some none := by k_is
  have k4 : noGet (hd.heap_39 w.params) none = true := rfl
  have k5 : PySem.W.getL (Str.ofString "parts") [⟨hs, .str (Str.ofString "parts") tk, .ref l⟩] = some (some (.ref l)) := by k_get
  exact get_value X (C := 205) (od := some (dictOf [⟨hs, .str (Str.ofString "parts") tk, .ref l⟩] n)) ⟨k _ _ a, rfl, rfl, k _ _ b⟩ (plainGet_of k1).1 (findObj_own k2 k3 k4 k5) (by k_handed) (h l vs c d g)
theorem NewPtr.mono {h₀ h h' : Heap} {x : Addr} {ps : List (List Nat)} (P : NewPtr h h' x ps) (k : ∀ b o, h₀.get? b = some o → h.get? b = some o) : NewPtr h₀ h' x ps := by
  obtain ⟨dx, l, vs, c, tk, n, hs, a, b, d, e, n1, n2, n3⟩ := P
  have z : ∀ b, h.get? b = none → h₀.get? b = none := fun b e => by
    cases q : h₀.get? b with
    | none => rfl
    | some o => rw [k b o q] at e; cases e
  exact ⟨dx, l, vs, c, tk, n, hs, a, b, d, e, z _ n1, z _ n2, z _ n3⟩
theorem joinP_spec {x y : Addr} {ps qs : List (List Nat)} {Q : Value → Shared → Prop} (C : Cg w loose mg mb s) (P1 : PtrIn s.heap x ps) (P2 : PtrIn s.heap y qs) (hu : A.units + 300 < cLine) (hdp : A.depth + 20 < recursionLimit) (hh : A.handled = none) (hl : (pathOf (ps ++ qs)).length ≤ 100000)
    (h : ∀ x s', KeepsT s s' → NewPtr (hid s.heap) s'.heap x (ps ++ qs) → Q (.ref x) s') : wpAny (model prog w) A (call (.ref 167) [.ref x, .ref y]) Q E s := by
  refine wpAny_call ?_
  obtain ⟨cx, ct, cb, ck⟩ := C
  have C0 := cx.hid ct
  have I1 := P1.hid ct
  have I2 := P2.hid ct
  have hn0 : ∀ b ∈ tabs, (hid s.heap).get? b = none := fun b hb => hid_none hb
  have hs0 := hid_size s.heap
  have hk0 : ∀ b o, (hid s.heap).get? b = some o → s.heap.get? b = some o := fun b o e => of_hideAll _ e
  have hh0 : ∀ b o, b ∉ tabs → s.heap.get? b = some o → (hid s.heap).get? b = some o := fun b o hb e => hideAll_get _ e hb
  obtain ⟨p, q, r, trip, e1, e2, e3⟩ := ct
  generalize hid s.heap = h₀ at *
  have X := C0.X
  have T := C0.T
  obtain ⟨hh₀, g, d, tk, os⟩ := s
  dsimp only at *
  refine' enterC (h₀ := h₀) (news := tab3 p q r) (binds := [(Str.ofString "self", .ref x), (Str.ofString "suffix", .ref y)]) X T.nolimit hk0 ?h0 ?hn ?h1 ?h2 ?hr ?h3 ?h4 ?_ ?h5 ?h6 ?h7 ?h8
  case h1 => k_is
  case h2 => k_is
  case h3 => exact BindsTo.of_eq rfl
  case h4 => exact locs rfl
  case h5 => decide
  case h6 => exact rfl
  case h7 => exact rfl
  case h8 => exact rfl
  case h0 => exact Nat.le_of_eq hs0
  case hr => omega
  case hn =>
    intro y hy
    rcases List.mem_cons.mp hy with rfl | hy
    · exact ⟨e1, hn0 _ (.head _)⟩
    rcases List.mem_cons.mp hy with rfl | hy
    · exact ⟨e2, hn0 _ (.tail _ (.head _))⟩
    rw [List.mem_singleton.mp hy]
    exact ⟨e3, hn0 _ (.tail _ (.tail _ (.head _)))⟩
  intro h₁ F N
  dsimp only
  walk_at "m go"
  refine isiPtr (X.keeps F.keep) (I2.keeps F.keep) ?_
  walk_at "m go"
  have hn1 : ps.length ≤ 100000 ∧ qs.length ≤ 100000 := by
    have := pathOf_count (ps ++ qs)
    rw [List.length_append] at this
    omega
  refine getPartsB (X.keeps F.keep) I2 F.keep fun l1 vs c1 hg1 hvs => ?_
  dsimp only
  walk_at "m go"
  rename_i h2 F2 N2 tka htka
  refine wpAny_Try_except ?_
  walk_at "m go"
  walk1
  rename_i q' h3 F3 N3 lt3
  dsimp only
  walk_at "m go"
  refine getParts (X.keeps F3.keep) (I1.keeps F3.keep) fun l3 us c3 g3 hus => ?_
  dsimp only
  walk_at "m go"
  refine list_copyK F3 N3 (PySem.IsL.isList g3) (fun D4 c4 h4 F4 N4 lt4 => ?_) (by rw [List.size_toArray, hus.length, sizeLine_eq]; omega)
  dsimp only
  walk_at "m go"
  refine list_copyK F4 N4 (PySem.IsL.isList (F4.keep _ _ hg1)) (fun D5 c5 h5 F5 N5 lt5 => ?_) (by rw [List.size_toArray, hvs.length, sizeLine_eq]; omega)
  dsimp only
  refine add_lists F5 N5 (PySem.IsL.isList (N5 _ (.tail _ (.head _))).1) (PySem.IsL.isList (N5 _ (.head _)).1) (fun h6 F6 N6 => ?_) (by rw [hus.length, hvs.length, sizeLine_eq]; omega)
  dsimp only
  walk_at "m go"
  generalize h5.objs.size = D6 at *
  refine ⟨methP N6 (.tail _ (.tail _ (.tail _ (.head _)))) (X.keeps F6.keep), ?_⟩
  refine call_meth N6 (.tail _ (.tail _ (.tail _ (.head _)))) ?_
  refine from_code (loose := loose) (mg := mg) (mb := mb) (vs := us ++ vs) (ps := ps ++ qs) ⟨C0.keeps F6.keep, newsTabs (rest := [_, _, _, _]) N6 trip, cb, Nat.succ_pos _⟩ (N6.isList (.head _)) (hus.append hvs) (by rw [units_deeper]; omega) (by rw [depth_deeper]; omega) hh hl (fun y' s' K hy => ?_)
  have hr : ∀ z ∈ [(D6, ({ cls := Value.type "list", data := Data.seq (us ++ vs).toArray } : Obj)), (D5, W.listOf vs.toArray c5), (D4, W.listOf us.toArray c4), (q', methodObj (Value.ref 199) (Value.ref 205))], z.1 ∉ tabs := notTab (rest := [(D6, ({ cls := Value.type "list", data := Data.seq (us ++ vs).toArray } : Obj)), (D5, W.listOf vs.toArray c5), (D4, W.listOf us.toArray c4), (q', methodObj (Value.ref 199) (Value.ref 205))]) N6 trip (by simp)
  obtain ⟨p', q'', r', trip', N7⟩ := newsT (rest := [(D6, ({ cls := Value.type "list", data := Data.seq (us ++ vs).toArray } : Obj)), (D5, W.listOf vs.toArray c5), (D4, W.listOf us.toArray c4), (q', methodObj (Value.ref 199) (Value.ref 205))]) (s := ⟨h6, g, d, _, os⟩) N6 hr K
  refine h y' s' (keepsTfin (rest := [(D6, ({ cls := Value.type "list", data := Data.seq (us ++ vs).toArray } : Obj)), (D5, W.listOf vs.toArray c5), (D4, W.listOf us.toArray c4), (q', methodObj (Value.ref 199) (Value.ref 205))]) hh0 (frT F6 hn0 (notL (rest := [(D6, ({ cls := Value.type "list", data := Data.seq (us ++ vs).toArray } : Obj)), (D5, W.listOf vs.toArray c5), (D4, W.listOf us.toArray c4), (q', methodObj (Value.ref 199) (Value.ref 205))]) N6) K) N7 trip' K.bare K.tk K.os K.drawn) (hy.mono fun b o e => hideAll_get _ (F6.keep b o e) fun hb => ?_)
  rw [hn0 b hb] at e; cases e
end
end Mine

end
section
open PySem PySem.W PySem.Calls PyProof.Rows
open PySem.Builtin PySem.Builtin.Str
set_option Elab.async false
set_option maxRecDepth 100000
set_option maxHeartbeats 400000
namespace Mine
theorem fill_it14 (P : (OpenLaw → (Params → Frag) → Prop)) (h : P PySem.Challenge.rw_jh0011_01 hd.heap_39) : P PySem.Challenge.rw_jh0011_01 hd.heap_39 := by
  k_fill
  exact h
local macro_rules | `(tactic| walk_at "m go") => `(tactic| repeat (first | ((with_reducible show wpAny _ _ _ _ _ _); (fail_if_success (with_reducible show wpAny _ _ (PySem.exec (Stmt.For _ _ _ _ _) _) _ _ _)); (fail_if_success (with_reducible show wpAny _ _ (PySem.call (Value.ref _) _ _) _ _ _)); (fail_if_success (with_reducible show wpAny _ _ (PySem.compareOp _ (Value.ref _) (Value.ref _)) _ _ _)); (fail_if_success (with_reducible show wpAny _ _ (PySem.call (Value.type _) _ _) _ _ _)); (fail_if_success (with_reducible show wpAny _ _ (PySem.binaryOp _ (Value.ref _) (Value.ref _)) _ _ _)); (fail_if_success (with_reducible show wpAny _ _ (PySem.exec (Stmt.Try _ _ _ _ _) _) _ _ _)); (fail_if_success (with_reducible show wpAny _ _ (PySem.getAttr (Value.ref _) _ _) _ _ _)); (fail_if_success (with_reducible show wpAny _ _ (PySem.eval (Expr.GeneratorExp _ _ _ _) _) _ _ _)); (fail_if_success (with_reducible show wpAny _ _ (PySem.exec (Stmt.Assign _ (Expr.ListComp _ _ _ _) _) _) _ _ _)); walk1; (try dsimp only)) | (with_reducible refine And.intro (Frag.In.keeps (by assumption) (Fr.keep (by assumption))) ?_) | (with_reducible refine split_not ?_) | (with_reducible refine ite_tt ?_) | (with_reducible refine ite_ff ?_)))
local macro_rules | `(tactic| walk_at "execs cons") => `(tactic| (refine execs_consG ?hp ?_; (case hp => first | assumption | exact Nat.succ_pos _ | exact Nat.lt_of_lt_of_le (by assumption) (Nat.le_add_right _ _) | omega); intro tk' htk'))
local macro_rules | `(tactic| walk_at "execs nil") => `(tactic| refine wpAny_execs_nil ?_)
section
variable {w : World} {A : Around} {E : Value → Shared → Prop} {s : Shared} {loose : List Str} {mg mb : Str → Option Value}
theorem isiL {y : Addr} {its : Array Value} {c : Value} {b : Bool} {Q : Value → Shared → Prop} (X : (hd.heap_39 w.params).In s.heap) (I : s.heap.IsList y its) (e : kitOne (hd.heap_39 w.params) (.type "list") c = some b) (h : ∀ tk, Q (.bool b) { s with toks := tk }) :
    wpAny (model prog w) A (call (.builtin "isinstance") [.ref y, c]) Q E s := by
  obtain ⟨o, ho, hc, _⟩ := I
  exact kia_one kitx_list X ⟨o, ho, hc⟩ e (fun q => by cases q) h
theorem joinT_spec {x : Addr} {ps qs : List (List Nat)} {l : List Nat} {t : Tok} {Q : Value → Shared → Prop} (C : Cg w loose mg mb s) (P1 : PtrIn s.heap x ps) (hv : Valid l) (hlq : toksOf l = qs) (hll : l.length ≤ 100000) (hu : A.units + 300 < cLine) (hdp : A.depth + 20 < recursionLimit) (hh : A.handled = none) (hl : (pathOf (ps ++ qs)).length ≤ 100000)
    (h : ∀ x s', KeepsT s s' → NewPtr (hid s.heap) s'.heap x (ps ++ qs) → Q (.ref x) s') : wpAny (model prog w) A (call (.ref 167) [.ref x, .str (S l) t]) Q E s := by
  refine wpAny_call ?_
  obtain ⟨cx, ct, cb, ck⟩ := C
  have C0 := cx.hid ct
  have I1 := P1.hid ct
  have hn0 : ∀ b ∈ tabs, (hid s.heap).get? b = none := fun b hb => hid_none hb
  have hs0 := hid_size s.heap
  have hk0 : ∀ b o, (hid s.heap).get? b = some o → s.heap.get? b = some o := fun b o e => of_hideAll _ e
  have hh0 : ∀ b o, b ∉ tabs → s.heap.get? b = some o → (hid s.heap).get? b = some o := fun b o hb e => hideAll_get _ e hb
  obtain ⟨p, q, r, trip, e1, e2, e3⟩ := ct
  generalize hid s.heap = h₀ at *
  have X := C0.X
  have T := C0.T
  obtain ⟨hh₀, g, d, tk, os⟩ := s
  dsimp only at *
  refine' enterC (h₀ := h₀) (news := tab3 p q r) (binds := [(Str.ofString "self", .ref x), (Str.ofString "suffix", .str (S l) t)]) X T.nolimit hk0 ?h0 ?hn ?h1 ?h2 ?hr ?h3 ?h4 ?_ ?h5 ?h6 ?h7 ?h8
  case h1 => k_is
  case h2 => k_is
  case h3 => exact BindsTo.of_eq rfl
  case h4 => exact locs rfl
  case h5 => decide
  case h6 => exact rfl
  case h7 => exact rfl
  case h8 => exact rfl
  case h0 => exact Nat.le_of_eq hs0
  case hr => omega
  case hn =>
    intro y hy
    rcases List.mem_cons.mp hy with rfl | hy
    · exact ⟨e1, hn0 _ (.head _)⟩
    rcases List.mem_cons.mp hy with rfl | hy
    · exact ⟨e2, hn0 _ (.tail _ (.head _))⟩
    rw [List.mem_singleton.mp hy]
    exact ⟨e3, hn0 _ (.tail _ (.tail _ (.head _)))⟩
  intro h₁ F N
  dsimp only
  walk_at "m go"
  have hn1 : ps.length ≤ 100000 ∧ qs.length ≤ 100000 := by
    have := pathOf_count (ps ++ qs)
    rw [List.length_append] at this
    omega
  refine' useK ?sp ?d3 ?_
  case sp => exact ptr_spec (X.keeps F.keep) (T.keeps F.keep) (by rw [depth_deeper]; omega) (by rw [units_deeper]; omega) hh (by assumption) hll hv
  case d3 => assumption
  intro v h8 tk9 hv8 hk8 htk9
  obtain ⟨y, rfl, hy⟩ := hv8
  rw [hlq] at hy
  have F8 := frK F hk8
  have N8 := newsK N hk8
  obtain ⟨dx, l1, vs, cu, tku, n, hs, hvs, N9⟩ := newsPtr F N8 hy
  clear N8 N hy F
  dsimp only at F8 N9 ⊢
  walk1
  dsimp only
  walk_at "m go"
  rename_i h2 F2 N2 tka htka
  refine wpAny_Try_except ?_
  walk_at "m go"
  walk1
  rename_i q' h3 F3 N3 lt3
  dsimp only
  walk_at "m go"
  refine getParts (X.keeps F3.keep) (I1.keeps F3.keep) fun l3 us c3 g3 hus => ?_
  dsimp only
  walk_at "m go"
  refine list_copyK F3 N3 (PySem.IsL.isList g3) (fun D4 c4 h4 F4 N4 lt4 => ?_) (by rw [List.size_toArray, hus.length, sizeLine_eq]; omega)
  dsimp only
  walk_at "m go"
  refine list_copyK F4 N4 (N4.isList (.tail _ (.tail _ (.tail _ (.tail _ (.head _)))))) (fun D5 c5 h5 F5 N5 lt5 => ?_) (by rw [List.size_toArray, hvs.length, sizeLine_eq]; omega)
  dsimp only
  refine add_lists F5 N5 (PySem.IsL.isList (N5 _ (.tail _ (.head _))).1) (PySem.IsL.isList (N5 _ (.head _)).1) (fun h6 F6 N6 => ?_) (by rw [hus.length, hvs.length, sizeLine_eq]; omega)
  dsimp only
  walk_at "m go"
  generalize h5.objs.size = D6 at *
  refine ⟨methP N6 (.tail _ (.tail _ (.tail _ (.head _)))) (X.keeps F6.keep), ?_⟩
  refine call_meth N6 (.tail _ (.tail _ (.tail _ (.head _)))) ?_
  refine from_code (loose := loose) (mg := mg) (mb := mb) (vs := us ++ vs) (ps := ps ++ qs) ⟨C0.keeps F6.keep, newsTabs (rest := [_, _, _, _, _, _, _]) N6 trip, cb, Nat.succ_pos _⟩ (N6.isList (.head _)) (hus.append hvs) (by rw [units_deeper]; omega) (by rw [depth_deeper]; omega) hh hl (fun y' s' K hy => ?_)
  have hr : ∀ z ∈ [(D6, ({ cls := Value.type "list", data := Data.seq (us ++ vs).toArray } : Obj)), (D5, W.listOf vs.toArray c5), (D4, W.listOf us.toArray c4), (q', methodObj (Value.ref 199) (Value.ref 205)), (y, instObj 205 dx), (dx, dictOf [⟨hs, .str (Str.ofString "parts") tku, .ref l1⟩] n), (l1, W.listOf vs.toArray cu)], z.1 ∉ tabs := notTab (rest := [(D6, ({ cls := Value.type "list", data := Data.seq (us ++ vs).toArray } : Obj)), (D5, W.listOf vs.toArray c5), (D4, W.listOf us.toArray c4), (q', methodObj (Value.ref 199) (Value.ref 205)), (y, instObj 205 dx), (dx, dictOf [⟨hs, .str (Str.ofString "parts") tku, .ref l1⟩] n), (l1, W.listOf vs.toArray cu)]) N6 trip (by simp)
  obtain ⟨p', q'', r', trip', N7⟩ := newsT (rest := [(D6, ({ cls := Value.type "list", data := Data.seq (us ++ vs).toArray } : Obj)), (D5, W.listOf vs.toArray c5), (D4, W.listOf us.toArray c4), (q', methodObj (Value.ref 199) (Value.ref 205)), (y, instObj 205 dx), (dx, dictOf [⟨hs, .str (Str.ofString "parts") tku, .ref l1⟩] n), (l1, W.listOf vs.toArray cu)]) (s := ⟨h6, g, d, _, os⟩) N6 hr K
  refine h y' s' (keepsTfin (rest := [(D6, ({ cls := Value.type "list", data := Data.seq (us ++ vs).toArray } : Obj)), (D5, W.listOf vs.toArray c5), (D4, W.listOf us.toArray c4), (q', methodObj (Value.ref 199) (Value.ref 205)), (y, instObj 205 dx), (dx, dictOf [⟨hs, .str (Str.ofString "parts") tku, .ref l1⟩] n), (l1, W.listOf vs.toArray cu)]) hh0 (frT F6 hn0 (notL (rest := [(D6, ({ cls := Value.type "list", data := Data.seq (us ++ vs).toArray } : Obj)), (D5, W.listOf vs.toArray c5), (D4, W.listOf us.toArray c4), (q', methodObj (Value.ref 199) (Value.ref 205)), (y, instObj 205 dx), (dx, dictOf [⟨hs, .str (Str.ofString "parts") tku, .ref l1⟩] n), (l1, W.listOf vs.toArray cu)]) N6) K) N7 trip' K.bare K.tk K.os K.drawn) (hy.mono fun b o e => hideAll_get _ (F6.keep b o e) fun hb => ?_)
  rw [hn0 b hb] at e; cases e
theorem joinL_spec {x y : Addr} {ps qs : List (List Nat)} {vs : List Value} {Q : Value → Shared → Prop} (C : Cg w loose mg mb s) (P1 : PtrIn s.heap x ps) (I : s.heap.IsList y vs.toArray) (hvs : LS vs qs) (hu : A.units + 300 < cLine) (hdp : A.depth + 20 < recursionLimit) (hh : A.handled = none) (hl : (pathOf (ps ++ qs)).length ≤ 100000)
    (h : ∀ x s', KeepsT s s' → NewPtr (hid s.heap) s'.heap x (ps ++ qs) → Q (.ref x) s') : wpAny (model prog w) A (call (.ref 167) [.ref x, .ref y]) Q E s := by
  refine wpAny_call ?_
  obtain ⟨cx, ct, cb, ck⟩ := C
  have C0 := cx.hid ct
  have I1 := P1.hid ct
  have I2 := hidList I ct
  have hn0 : ∀ b ∈ tabs, (hid s.heap).get? b = none := fun b hb => hid_none hb
  have hs0 := hid_size s.heap
  have hk0 : ∀ b o, (hid s.heap).get? b = some o → s.heap.get? b = some o := fun b o e => of_hideAll _ e
  have hh0 : ∀ b o, b ∉ tabs → s.heap.get? b = some o → (hid s.heap).get? b = some o := fun b o hb e => hideAll_get _ e hb
  obtain ⟨p, q, r, trip, e1, e2, e3⟩ := ct
  generalize hid s.heap = h₀ at *
  have X := C0.X
  have T := C0.T
  obtain ⟨hh₀, g, d, tk, os⟩ := s
  dsimp only at *
  refine' enterC (h₀ := h₀) (news := tab3 p q r) (binds := [(Str.ofString "self", .ref x), (Str.ofString "suffix", .ref y)]) X T.nolimit hk0 ?h0 ?hn ?h1 ?h2 ?hr ?h3 ?h4 ?_ ?h5 ?h6 ?h7 ?h8
  case h1 => k_is
  case h2 => k_is
  case h3 => exact BindsTo.of_eq rfl
  case h4 => exact locs rfl
  case h5 => decide
  case h6 => exact rfl
  case h7 => exact rfl
  case h8 => exact rfl
  case h0 => exact Nat.le_of_eq hs0
  case hr => omega
  case hn =>
    intro y hy
    rcases List.mem_cons.mp hy with rfl | hy
    · exact ⟨e1, hn0 _ (.head _)⟩
    rcases List.mem_cons.mp hy with rfl | hy
    · exact ⟨e2, hn0 _ (.tail _ (.head _))⟩
    rw [List.mem_singleton.mp hy]
    exact ⟨e3, hn0 _ (.tail _ (.tail _ (.head _)))⟩
  intro h₁ F N
  dsimp only
  walk_at "m go"
  have hn1 : ps.length ≤ 100000 ∧ qs.length ≤ 100000 := by
    have := pathOf_count (ps ++ qs)
    rw [List.length_append] at this
    omega
  refine isiL (X.keeps F.keep) (I2.at fun o e => F.keep _ _ e) (c := .ref 205) (b := false) (by kit_is) (fun tk1 => ?_)
  walk_at "m go"
  refine isiL (X.keeps F.keep) (I2.at fun o e => F.keep _ _ e) (c := .type "str") (b := false) (by kit_is) (fun tk2 => ?_)
  walk_at "m go"
  rename_i h2 F2 N2 tka htka
  refine wpAny_Try_except ?_
  walk_at "m go"
  walk1
  rename_i q' h3 F3 N3 lt3
  dsimp only
  walk_at "m go"
  refine getParts (X.keeps F3.keep) (I1.keeps F3.keep) fun l3 us c3 g3 hus => ?_
  dsimp only
  walk_at "m go"
  refine list_copyK F3 N3 (PySem.IsL.isList g3) (fun D4 c4 h4 F4 N4 lt4 => ?_) (by rw [List.size_toArray, hus.length, sizeLine_eq]; omega)
  dsimp only
  walk_at "m go"
  refine list_copyK F4 N4 (I2.at fun o e => F4.keep _ _ e) (fun D5 c5 h5 F5 N5 lt5 => ?_) (by rw [List.size_toArray, hvs.length, sizeLine_eq]; omega)
  dsimp only
  refine add_lists F5 N5 (PySem.IsL.isList (N5 _ (.tail _ (.head _))).1) (PySem.IsL.isList (N5 _ (.head _)).1) (fun h6 F6 N6 => ?_) (by rw [hus.length, hvs.length, sizeLine_eq]; omega)
  dsimp only
  walk_at "m go"
  generalize h5.objs.size = D6 at *
  refine ⟨methP N6 (.tail _ (.tail _ (.tail _ (.head _)))) (X.keeps F6.keep), ?_⟩
  refine call_meth N6 (.tail _ (.tail _ (.tail _ (.head _)))) ?_
  refine from_code (loose := loose) (mg := mg) (mb := mb) (vs := us ++ vs) (ps := ps ++ qs) ⟨C0.keeps F6.keep, newsTabs (rest := [_, _, _, _]) N6 trip, cb, Nat.succ_pos _⟩ (N6.isList (.head _)) (hus.append hvs) (by rw [units_deeper]; omega) (by rw [depth_deeper]; omega) hh hl (fun y' s' K hy => ?_)
  have hr : ∀ z ∈ [(D6, ({ cls := Value.type "list", data := Data.seq (us ++ vs).toArray } : Obj)), (D5, W.listOf vs.toArray c5), (D4, W.listOf us.toArray c4), (q', methodObj (Value.ref 199) (Value.ref 205))], z.1 ∉ tabs := notTab (rest := [(D6, ({ cls := Value.type "list", data := Data.seq (us ++ vs).toArray } : Obj)), (D5, W.listOf vs.toArray c5), (D4, W.listOf us.toArray c4), (q', methodObj (Value.ref 199) (Value.ref 205))]) N6 trip (by simp)
  obtain ⟨p', q'', r', trip', N7⟩ := newsT (rest := [(D6, ({ cls := Value.type "list", data := Data.seq (us ++ vs).toArray } : Obj)), (D5, W.listOf vs.toArray c5), (D4, W.listOf us.toArray c4), (q', methodObj (Value.ref 199) (Value.ref 205))]) (s := ⟨h6, g, d, _, os⟩) N6 hr K
  refine h y' s' (keepsTfin (rest := [(D6, ({ cls := Value.type "list", data := Data.seq (us ++ vs).toArray } : Obj)), (D5, W.listOf vs.toArray c5), (D4, W.listOf us.toArray c4), (q', methodObj (Value.ref 199) (Value.ref 205))]) hh0 (frT F6 hn0 (notL (rest := [(D6, ({ cls := Value.type "list", data := Data.seq (us ++ vs).toArray } : Obj)), (D5, W.listOf vs.toArray c5), (D4, W.listOf us.toArray c4), (q', methodObj (Value.ref 199) (Value.ref 205))]) N6) K) N7 trip' K.bare K.tk K.os K.drawn) (hy.mono fun b o e => hideAll_get _ (F6.keep b o e) fun hb => ?_)
  rw [hn0 b hb] at e; cases e
end
end Mine

end
section
open PySem PySem.W PySem.Calls PyProof.Rows
open PySem.Builtin PySem.Builtin.Str
set_option Elab.async false
set_option maxRecDepth 100000
set_option maxHeartbeats 400000
namespace Mine
theorem fill_it15 (P : (OpenLaw → (Params → Frag) → Prop)) (h : P PySem.Challenge.rw_jh0011_01 hd.heap_39) : P PySem.Challenge.rw_jh0011_01 hd.heap_39 := by
  k_fill
  exact h
local macro_rules | `(tactic| walk_at "m go") => `(tactic| repeat (first | ((with_reducible show wpAny _ _ _ _ _ _); (fail_if_success (with_reducible show wpAny _ _ (PySem.exec (Stmt.For _ _ _ _ _) _) _ _ _)); (fail_if_success (with_reducible show wpAny _ _ (PySem.call (Value.ref _) _ _) _ _ _)); (fail_if_success (with_reducible show wpAny _ _ (PySem.compareOp _ (Value.ref _) (Value.ref _)) _ _ _)); (fail_if_success (with_reducible show wpAny _ _ (PySem.call (Value.type _) _ _) _ _ _)); (fail_if_success (with_reducible show wpAny _ _ (PySem.binaryOp _ (Value.ref _) (Value.ref _)) _ _ _)); (fail_if_success (with_reducible show wpAny _ _ (PySem.exec (Stmt.Try _ _ _ _ _) _) _ _ _)); (fail_if_success (with_reducible show wpAny _ _ (PySem.getAttr (Value.ref _) _ _) _ _ _)); (fail_if_success (with_reducible show wpAny _ _ (PySem.eval (Expr.GeneratorExp _ _ _ _) _) _ _ _)); (fail_if_success (with_reducible show wpAny _ _ (PySem.exec (Stmt.Assign _ (Expr.ListComp _ _ _ _) _) _) _ _ _)); walk1; (try dsimp only)) | (with_reducible refine And.intro (Frag.In.keeps (by assumption) (Fr.keep (by assumption))) ?_) | (with_reducible refine split_not ?_) | (with_reducible refine ite_tt ?_) | (with_reducible refine ite_ff ?_)))
local macro_rules | `(tactic| walk_at "execs cons") => `(tactic| (refine execs_consG ?hp ?_; (case hp => first | assumption | exact Nat.succ_pos _ | exact Nat.lt_of_lt_of_le (by assumption) (Nat.le_add_right _ _) | omega); intro tk' htk'))
local macro_rules | `(tactic| walk_at "execs nil") => `(tactic| refine wpAny_execs_nil ?_)
section
variable {w : World} {A : Around} {E : Value → Shared → Prop} {s : Shared} {loose : List Str} {mg mb : Str → Option Value}
theorem split_spec {l : List Nat} {t : Tok} (X : (hd.heap_39 w.params).In s.heap) (T : TopRead Mine.view0 loose mg mb s.heap) (hdp : A.depth + 10 < recursionLimit) (hu : A.units + 200 < cLine) (hh : A.handled = none) (ht : 0 < s.toks) (hl : l.length ≤ 100000) (hv : Valid l) :
    wpAny (model prog w) A (call (.ref 230) [.str (S l) t]) (fun v s' => (∃ a vs c, v = .ref a ∧ s'.heap.get? a = some ({ cls := .type "tuple", data := .seq (List.toArray vs) c } : Obj) ∧ LS vs (toksOf l) ∧ s.heap.get? a = none) ∧ Keeps s s') E s := by
  obtain ⟨hh₀, g, d, tk, os⟩ := s
  dsimp only at X T ht
  refine' enterK (binds := [(Str.ofString "path", .str (S l) t)]) X T.nolimit ?h1 ?h2 (by omega) ?h3 ?h4 ?_ ?h5 ?h6 ?h7 ?h8
  case h1 => k_is
  case h2 => k_is
  case h3 => exact BindsTo.of_eq rfl
  case h4 => exact locs rfl
  case h5 => decide
  case h6 => exact rfl
  case h7 => exact rfl
  case h8 => exact rfl
  intro h₁ F N
  dsimp only at F N ⊢
  walk_at "m go"
  refine' useK ?sp ?d3 ?_
  case sp => exact ptr_spec (X.keeps F.keep) (T.keeps F.keep) (by rw [depth_deeper]; omega) (by rw [units_deeper]; omega) hh (by assumption) hl hv
  case d3 => assumption
  intro v h8 tk9 hv8 hk8 htk9
  obtain ⟨y, rfl, hy⟩ := hv8
  have F8 := frK F hk8
  have N8 := newsK N hk8
  obtain ⟨dx, l1, vs, cu, tku, n, hs, hvs, N9⟩ := newsPtr F N8 hy
  clear N8 N hy F
  dsimp only at F8 N9 ⊢
  walk1
  dsimp only
  walk_at "m go"
  have hlen : vs.length ≤ l.length + 1 := by
    rw [hvs.length]
    unfold toksOf
    have := splitL_length 47 l
    rw [List.length_map, List.length_drop]; omega
  refine tuple_ofL F8 N9 (N9.isList (.tail _ (.tail _ (.head _)))) (fun D h' F' N' hk => ?_) (by rw [sizeLine_eq]; omega)
  exact ⟨⟨D, vs, 0, rfl, (N' _ (.head _)).1, hvs, (N' _ (.head _)).2.2⟩, keepsOf F'⟩
end
end Mine

end
section
open PySem PySem.W PySem.Calls PyProof.Rows
open PySem.Builtin PySem.Builtin.Str
set_option Elab.async false
set_option maxRecDepth 100000
set_option maxHeartbeats 400000
namespace Mine
theorem fill_it20 (P : (OpenLaw → (Params → Frag) → Prop)) (h : P PySem.Challenge.rw_jh0011_01 hd.heap_39) : P PySem.Challenge.rw_jh0011_01 hd.heap_39 := by
  k_fill
  exact h
local macro_rules | `(tactic| walk_at "m go") => `(tactic| repeat (first | ((with_reducible show wpAny _ _ _ _ _ _); (fail_if_success (with_reducible show wpAny _ _ (PySem.exec (Stmt.For _ _ _ _ _) _) _ _ _)); (fail_if_success (with_reducible show wpAny _ _ (PySem.leaving _ _) _ _ _)); (fail_if_success (with_reducible show wpAny _ _ (PySem.call (Value.ref _) _ _) _ _ _)); (fail_if_success (with_reducible show wpAny _ _ (PySem.compareOp _ (Value.ref _) (Value.ref _)) _ _ _)); (fail_if_success (with_reducible show wpAny _ _ (PySem.call (Value.type _) _ _) _ _ _)); (fail_if_success (with_reducible show wpAny _ _ (PySem.binaryOp _ (Value.ref _) (Value.ref _)) _ _ _)); (fail_if_success (with_reducible show wpAny _ _ (PySem.exec (Stmt.Try _ _ _ _ _) _) _ _ _)); (fail_if_success (with_reducible show wpAny _ _ (PySem.getAttr (Value.ref _) _ _) _ _ _)); (fail_if_success (with_reducible show wpAny _ _ (PySem.eval (Expr.GeneratorExp _ _ _ _) _) _ _ _)); (fail_if_success (with_reducible show wpAny _ _ (PySem.exec (Stmt.Assign _ (Expr.ListComp _ _ _ _) _) _) _ _ _)); walk1; (try dsimp only)) | (with_reducible refine And.intro (Frag.In.keeps (by assumption) (Fr.keep (by assumption))) ?_) | (with_reducible refine split_not ?_) | (with_reducible refine ite_tt ?_) | (with_reducible refine ite_ff ?_)))
local macro_rules | `(tactic| walk_at "execs cons") => `(tactic| (refine execs_consG ?hp ?_; (case hp => first | assumption | exact Nat.succ_pos _ | exact Nat.lt_of_lt_of_le (by assumption) (Nat.le_add_right _ _) | omega); intro tk' htk'))
local macro_rules | `(tactic| walk_at "execs nil") => `(tactic| refine wpAny_execs_nil ?_)
section
variable {w : World} {A A₀ : Around} {s : Shared} {loose : List Str} {mg mb : Str → Option Value} {base h₀ : Heap} {outer : List Env} {L a : Addr} {m : Str → Option Value} {cn : Str} {cs : Scope} {ccd : Value} {news : List (Addr × Obj)}
theorem ptr_bad {l : List Nat} {t : Tok} {R : Result → Shared → Prop} (X : (hd.heap_39 w.params).In h₀) (T : TopRead Mine.view0 loose mg mb h₀) (B : Below A₀ base outer h₀) (F : Fr h₀ L s.heap m) (N : News h₀ L s.heap news) (hA : A.frames = some (envOf cn cs L a ccd :: outer))
    (hck : cs.kind = .function) (hdp : A.depth + 5 < recursionLimit) (hh : A.handled = none) (ht : 0 < s.toks) (hl : l.length ≤ 100000) (hv : ¬ Valid l)
    (h : ∀ g e t' vs n₂ h' tk, 0 < tk → Fr h₀ L g m → RaisedK base (envOf cn cs L a ccd :: outer) e (.ref 47) t' vs (n₂ ++ news) h' → g.UpToSlots h' → R (.error (.ref e)) ⟨h', s.gens, s.drawn, tk, s.os⟩) :
    codeAny (model prog w) A (.call (.ref 205) ⟨[.str (S l) t], []⟩) R s := by
  obtain ⟨hh₀, g, d, tk, os⟩ := s
  dsimp only at F N ht h
  refine' make_K F N (X.keeps F.keep) ?k4 ?k5 ?k6 ?_
  case k4 => k_is
  case k5 => k_is
  case k6 => k_is
  intro x dx h1 F1 N1 l1 l2
  dsimp only
  refine' call_K (binds := [(Str.ofString "self", .ref x), (Str.ofString "pointer", .str (S l) t)]) B F1 N1 (X.keeps F1.keep) T.nolimit ?hA ?ho ?hcd ?hr ?hb ?hl ?_ hck ?h6 ?h7 ?h8 ?h5
  case hA => exact hA
  case ho => k_is
  case hcd => k_is
  case hr => rw [depth_under_make]; omega
  case hb => exact BindsTo.of_eq rfl
  case hl => exact locs rfl
  case h5 => decide
  case h6 => exact rfl
  case h7 => exact rfl
  case h8 => exact rfl
  intro g' L' h2 Fg F2 N2 B2 st
  have X2 := X.keeps st
  have T2 := T.keeps st
  clear X T B F N F1 N1
  dsimp only at F2 N2 ⊢
  walk_at "m go"
  refine' useK ?sp ?d3 ?_
  case sp => exact bad_spec (X2.keeps F2.keep) (T2.keeps F2.keep) (by rw [depth_deeper, depth_under_make]; omega) hh hl
  case d3 => assumption
  intro v h3 tk3 hv3 hk3 htk3
  subst hv3
  have F3 := frK F2 hk3
  have N3 := newsK N2 hk3
  dsimp only at F3 N3 ⊢
  clear F2 N2 hk3
  by_cases hbe : badEsc l = true
  · rw [hbe]
    walk_at "m go"
    refine ⟨by show 1 ≤ sizeLine; rw [sizeLine_eq]; decide, F3.keep, fun h8 e hx => ?_⟩
    refine leave_raiseK B2 hx F3 N3 (fun h9 t' RK U => ?_)
    exact h g' e t' _ [(x, instObj 205 dx), (dx, emptyDict)] h9 _ (Nat.succ_pos _) Fg RK U
  · rw [Bool.not_eq_true] at hbe
    rw [hbe]
    have hhd : ¬ (splitL 47 l).head? = some [] := fun e => hv ⟨hbe, e⟩
    walk_at "m go"
    have hr1 : ∀ y ∈ [(x, instObj 205 dx), (dx, emptyDict)] ++ news, y.1 ≠ h3.objs.size := fun y hy => Nat.ne_of_lt (Heap.lt_size (N3 y hy).1)
    refine splitN1 (hsz := by rw [S_length, sizeLine_eq]; omega) F3 N3 (by decide +kernel) fun sl h4 k4 hsl F4 N4 => ?_
    rw [litS, splitS] at hsl
    dsimp only at F4 N4 ⊢
    walk_at "m go"
    rename_i h5 F5 N5 tk5 htk5
    have hvs := LS_strValues hsl
    obtain ⟨p, q, hpq⟩ : ∃ p q, splitL 47 l = p :: q := by
      cases hs : splitL 47 l with
      | nil => exact absurd hs (splitL_ne 47 l)
      | cons p q => exact ⟨p, q, rfl⟩
    rw [hpq] at hvs hhd
    obtain ⟨t0, us, hsv, hvq⟩ := StrsAre.cons_inv (show StrsAre (strValues sl) (S p :: q.map S) from hvs)
    have hlq : us.length ≤ 1000000 := by
      have h1 : (splitL 47 l).length ≤ l.length + 1 := splitL_length 47 l
      have h2 := (show LS us q from hvq).length
      rw [hpq, List.length_cons] at h1
      omega
    rw [hsv] at N5
    refine pop0 F5 N5 hr1 hlq fun h6 F6 N6 => ?_
    dsimp only
    walk_at "m go"
    rw [show (S p != Str.ofString "") = true from by
      rw [litE]; unfold bne; rw [S_beq]
      have : p ≠ [] := fun e => hhd (by rw [e]; rfl)
      cases p with
      | nil => exact absurd rfl this
      | cons _ _ => rfl]
    walk_at "m go"
    refine ⟨by show 1 ≤ sizeLine; rw [sizeLine_eq]; decide, F6.keep, fun h8 e hx => ?_⟩
    refine leave_raiseK B2 hx F6 N6 (fun h9 t' RK U => ?_)
    exact h g' e t' _ [(h3.objs.size, W.listOf us.toArray (0 + 1)), (x, instObj 205 dx), (dx, emptyDict)] h9 _ (Nat.succ_pos _) Fg RK U
theorem split_bad {l : List Nat} {t : Tok} {R : Result → Shared → Prop} (X : (hd.heap_39 w.params).In h₀) (T : TopRead Mine.view0 loose mg mb h₀) (B : Below A₀ base outer h₀) (F : Fr h₀ L s.heap m) (N : News h₀ L s.heap news) (hA : A.frames = some (envOf cn cs L a ccd :: outer))
    (hck : cs.kind = .function) (hdp : A.depth + 10 < recursionLimit) (hh : A.handled = none) (ht : 0 < s.toks) (hl : l.length ≤ 100000) (hv : ¬ Valid l)
    (h : ∀ g e t' vs n₂ h' tk, 0 < tk → Fr h₀ L g m → RaisedK base (envOf cn cs L a ccd :: outer) e (.ref 47) t' vs (n₂ ++ news) h' → g.UpToSlots h' → R (.error (.ref e)) ⟨h', s.gens, s.drawn, tk, s.os⟩) :
    codeAny (model prog w) A (.call (.ref 230) ⟨[.str (S l) t], []⟩) R s := by
  obtain ⟨hh₀, g, d, tk, os⟩ := s
  dsimp only at F N ht h
  refine' call_K (binds := [(Str.ofString "path", .str (S l) t)]) B F N (X.keeps F.keep) T.nolimit ?hA ?ho ?hcd ?hr ?hb ?hl ?_ hck ?h6 ?h7 ?h8 ?h5
  case hA => exact hA
  case ho => k_is
  case hcd => k_is
  case hr => omega
  case hb => exact BindsTo.of_eq rfl
  case hl => exact locs rfl
  case h5 => decide
  case h6 => exact rfl
  case h7 => exact rfl
  case h8 => exact rfl
  intro g' L' h2 Fg F2 N2 B2 st
  have X2 := X.keeps st
  have T2 := T.keeps st
  clear X T B F N
  dsimp only at F2 N2 ⊢
  walk_at "m go"
  refine wpAny_call (ptr_bad X2 T2 B2 F2 N2 (Around.frames_deeper hA) rfl (by rw [depth_deeper]; omega) hh (by assumption) hl hv (fun g3 e t' vs n₂ h3 tk3 htk3 F3 RK U => ?_))
  dsimp only
  refine leave_onK B2 F3 RK U (fun h4 RK4 U4 => ?_)
  exact h g' e t' vs n₂ h4 _ htk3 Fg RK4 U4
end
end Mine

end
section
open PySem PySem.W PySem.Calls PyProof.Rows
open PySem.Builtin PySem.Builtin.Str
set_option Elab.async false
set_option maxRecDepth 100000
set_option maxHeartbeats 400000
namespace Mine
theorem fill_it16 (P : (OpenLaw → (Params → Frag) → Prop)) (h : P PySem.Challenge.rw_jh0011_01 hd.heap_39) : P PySem.Challenge.rw_jh0011_01 hd.heap_39 := by
  k_fill
  exact h
local macro_rules | `(tactic| walk_at "m go") => `(tactic| repeat (first | ((with_reducible show wpAny _ _ _ _ _ _); (fail_if_success (with_reducible show wpAny _ _ (PySem.exec (Stmt.For _ _ _ _ _) _) _ _ _)); (fail_if_success (with_reducible show wpAny _ _ (PySem.call (Value.ref _) _ _) _ _ _)); (fail_if_success (with_reducible show wpAny _ _ (PySem.compareOp _ (Value.ref _) (Value.ref _)) _ _ _)); (fail_if_success (with_reducible show wpAny _ _ (PySem.call (Value.type _) _ _) _ _ _)); (fail_if_success (with_reducible show wpAny _ _ (PySem.binaryOp _ (Value.ref _) (Value.ref _)) _ _ _)); (fail_if_success (with_reducible show wpAny _ _ (PySem.exec (Stmt.Try _ _ _ _ _) _) _ _ _)); (fail_if_success (with_reducible show wpAny _ _ (PySem.getAttr (Value.ref _) _ _) _ _ _)); (fail_if_success (with_reducible show wpAny _ _ (PySem.eval (Expr.GeneratorExp _ _ _ _) _) _ _ _)); (fail_if_success (with_reducible show wpAny _ _ (PySem.exec (Stmt.Assign _ (Expr.ListComp _ _ _ _) _) _) _ _ _)); walk1; (try dsimp only)) | (with_reducible refine And.intro (Frag.In.keeps (by assumption) (Fr.keep (by assumption))) ?_) | (with_reducible refine split_not ?_) | (with_reducible refine ite_tt ?_) | (with_reducible refine ite_ff ?_)))
local macro_rules | `(tactic| walk_at "execs cons") => `(tactic| (refine execs_consG ?hp ?_; (case hp => first | assumption | exact Nat.succ_pos _ | exact Nat.lt_of_lt_of_le (by assumption) (Nat.le_add_right _ _) | omega); intro tk' htk'))
local macro_rules | `(tactic| walk_at "execs nil") => `(tactic| refine wpAny_execs_nil ?_)
theorem intsMem : ∀ {vs : List Value} {ns : List Int} {v : Value}, IntsAre vs ns → v ∈ vs → ∃ n t, v = .int n t ∧ n ∈ ns
  | _, _, _, .nil, h => nomatch h
  | _, _, _, .cons n t r, h => by
    rcases List.mem_cons.mp h with rfl | h
    · exact ⟨n, t, rfl, .head _⟩
    · obtain ⟨n', t', e, hm⟩ := intsMem r h
      exact ⟨n', t', e, .tail _ hm⟩
theorem paired_IS {f : Int → List Nat} : ∀ {ns : List Int} {vs us : List Value}, IntsAre vs ns → Paired (fun v u => ∃ n t t', v = Value.int n t ∧ u = Value.str (S (f n)) t') vs us → LS us (ns.map f)
  | _, _, _, .nil, hp => by
    cases hp
    exact LS.nil
  | _, _, _, .cons n t r, hp => by
    cases hp with
    | cons hf hr =>
      obtain ⟨n', t1, t2, e1, rfl⟩ := hf
      injection e1 with e1
      subst e1
      exact LS.cons (paired_IS r hr)
section
variable {w : World} {A : Around} {E : Value → Shared → Prop} {s : Shared} {loose : List Str} {mg mb : Str → Option Value}
/-- a comprehension over a list of ints, its element a text -/
theorem compI {env : Env} {e iter : Expr} {x y : Str} {px py : Pos} {scope : Scope} {pos spos : Pos} {Q : Flow → Shared → Prop} {h₀ : Heap} {f : Int → List Nat}
    (hsw : swapsWith (.ListComp e [⟨.Name x px, iter, [], 0⟩] scope pos) (some (.Name y py)) spos.line env = pure true)
    (hfree : ∀ z ∈ scope.names, z.2 ≠ .free) (hcell : ∀ z ∈ scope.names, z.2 ≠ .cell) (hkind : scope.kind = .function)
    (hnames : ∀ z ∈ scope.names, z.2 = .local → scope.names.lookup z.1 = some .local) (hx : scope.names.lookup x = some .local)
    (hy : env.kindOf y = some .local) (hp : (env.scope.kind == .class || (env.scope.kind == .module && env.locals != env.globals)) = false) (hh : A.handled = none)
    (h : wpAny (model prog w) A (eval iter env) (fun xv s₁ => ∃ a vs ns m news, xv = .ref a ∧ s₁.heap.IsList a vs.toArray ∧ IntsAre vs ns ∧ vs.length ≤ sizeLine ∧ Fr h₀ env.locals s₁.heap m ∧ News h₀ env.locals s₁.heap news ∧
      (∀ C n t s₃ m₃ E', n ∈ ns → s₃.heap.Ns C m₃ → m₃ x = some (.int n t) → (∀ b o, s₁.heap.get? b = some o → s₃.heap.get? b = some o) → s₁.toks ≤ s₃.toks →
        wpAny (model prog w) A (eval e (compEnv scope C env)) (fun v s₄ => (∃ t', v = .str (S (f n)) t') ∧ Keeps s₃ s₄) E' s₃) ∧
      (∀ D h' tk ys c, Fr h₀ env.locals h' (fun z => if z = y then some (.ref D) else m z) → News h₀ env.locals h' ((D, PySem.W.listOf ys.toArray c) :: news) → LS ys (ns.map f) → s₁.heap.get? D = none →
        (∀ b o, b ≠ env.locals → s₁.heap.get? b = some o → h'.get? b = some o) → Q .next ⟨h', s₁.gens, s₁.drawn, tk, s₁.os⟩)) E s)
    (hs : ∀ x, foldedSetIterable iter env x = pure x) :
    wpAny (model prog w) A (exec (.Assign [.Name y py] (.ListComp e [⟨.Name x px, iter, [], 0⟩] scope pos) spos) env) Q E s := by
  refine wpAny_Assign_ListComp_walk (fun _ => true) (fun v u => ∃ n t t', v = .int n t ∧ u = .str (S (f n)) t') hsw hfree hcell hkind hnames hx hy hp (wpAny_mono h (fun xv s₁ h₁ => ?_) fun _ _ x => x) hs
  obtain ⟨a, vs, ns, m, news, rfl, hl, hvs, hsz, F, N, elt, hQ⟩ := h₁
  refine wpAny_pyIter_list hl ?_
  obtain ⟨ol, hol, _⟩ := id hl
  have hlt : a < s₁.heap.objs.size := Heap.lt_size hol
  have hsize : vs.toArray.size = vs.length := by simp
  have W := Walks.list (prog := prog) (w := w) hh s₁.heap.objs.size a (Nat.ne_of_lt hlt) vs.toArray
  rw [hsize] at W
  have hL : env.locals < s₁.heap.objs.size := F.ns.lt
  have old : ∀ b o, s₁.heap.get? b = some o → b ∉ [s₁.heap.objs.size] := fun b o e hm => absurd (Heap.lt_size e) (by rw [List.mem_singleton.mp hm]; exact Nat.lt_irrefl _)
  refine ⟨_, _, _, vs.length, _, _, m, rfl, W, hsz, ⟨⟨_, Heap.get?_push_size _ rfl, rfl, rfl⟩, hl.at fun o e => Heap.get?_push_of_some _ e⟩, ?_, ?_, (F.push _).ns, ⟨?_, ?_⟩, ?_⟩
  · intro b hb
    rw [Heap.size_push]
    rcases List.mem_cons.mp hb with rfl | hb
    · exact Nat.lt_succ_self _
    · rw [List.mem_singleton.mp hb]; exact Nat.lt_succ_of_lt hlt
  · intro hm
    rw [List.mem_singleton.mp hm] at hL
    exact Nat.lt_irrefl _ hL
  · intro C i v s₃ m₃ E' _ _ _ _ _
    exact wpAny_pure ⟨rfl, keepsRefl _⟩
  · intro C i v s₃ m₃ E' hv _ hn hm hk htk
    have hv' : vs[i]? = some v := by simpa using hv
    obtain ⟨n, t, rfl, hmem⟩ := intsMem hvs (List.mem_of_getElem? hv')
    refine wpAny_mono (elt C n t s₃ m₃ E' hmem hn hm (fun b o e => hk b o (old b o e) (Heap.get?_push_of_some _ e)) htk) (fun u s₄ q => ?_) fun _ _ x => x
    obtain ⟨⟨t', rfl⟩, hK⟩ := q
    exact ⟨⟨_, _, _, rfl, rfl⟩, hK⟩
  · intro D h' tk ys vs' hD hlD hplD hlen hP hF hNs hkeep
    have ev : vs' = vs := by
      apply List.ext_getElem?
      intro j
      by_cases hj : j < vs'.length
      · have := hP j vs'[j] (List.getElem?_eq_getElem hj)
        rw [List.getElem?_eq_getElem hj]
        simpa using this.symm
      · rw [List.getElem?_eq_none (by omega), List.getElem?_eq_none (by omega)]
    subst ev
    rw [show vs'.filter (fun _ => true) = vs' from List.filter_eq_self.mpr fun _ _ => rfl] at hF
    obtain ⟨c, hc⟩ := hplD
    have hDn : s₁.heap.get? D = none := by
      cases q : s₁.heap.get? D with
      | none => rfl
      | some o => rw [Heap.get?_push_of_some _ q] at hD; cases hD
    have kp : ∀ b o, b ≠ env.locals → s₁.heap.get? b = some o → h'.get? b = some o := fun b o hb e => hkeep b o hb (old b o e) (Heap.get?_push_of_some _ e)
    have F' : Fr h₀ env.locals h' (fun z => if z = y then some (.ref D) else m z) := ⟨hNs, fun b o e => kp b o (fun hb => absurd (Nat.lt_of_lt_of_le (Heap.lt_size e) F.above) (hb ▸ Nat.lt_irrefl _)) (F.keep b o e), F.above⟩
    have N' : News h₀ env.locals h' news := fun p hp => ⟨kp _ _ (N p hp).2.1 (N p hp).1, (N p hp).2⟩
    have ND : News h₀ env.locals h' ((D, PySem.W.listOf ys.toList.toArray c) :: news) := newsAdd F N' hDn (by rw [hc])
    exact hQ D h' tk ys.toList c F' ND (paired_IS hvs hF) hDn kp

/-- the same as an expression -/
theorem compIE {env : Env} {e iter : Expr} {x : Str} {px : Pos} {scope : Scope} {pos : Pos} {Q : Value → Shared → Prop} {f : Int → List Nat}
    (hh : A.handled = none) (hfree : ∀ z ∈ scope.names, z.2 ≠ .free) (hcell : ∀ z ∈ scope.names, z.2 ≠ .cell) (hkind : scope.kind = .function)
    (hnames : ∀ z ∈ scope.names, z.2 = .local → scope.names.lookup z.1 = some .local) (hx : scope.names.lookup x = some .local)
    (h : wpAny (model prog w) A (eval iter env) (fun xv s₁ => ∃ a vs ns, xv = .ref a ∧ s₁.heap.IsList a vs.toArray ∧ IntsAre vs ns ∧ vs.length ≤ sizeLine ∧
      (∀ C n t s₃ m₃ E', n ∈ ns → s₃.heap.Ns C m₃ → m₃ x = some (.int n t) → (∀ b o, s₁.heap.get? b = some o → s₃.heap.get? b = some o) →
        wpAny (model prog w) A (eval e (compEnv scope C env)) (fun v s₄ => (∃ t', v = .str (S (f n)) t') ∧ Keeps s₃ s₄) E' s₃) ∧
      (∀ D h' tk ys, s₁.heap.get? D = none → h'.IsList D (List.toArray ys) → LS ys (ns.map f) → (∀ b o, s₁.heap.get? b = some o → h'.get? b = some o) → Q (.ref D) ⟨h', s₁.gens, s₁.drawn, tk, s₁.os⟩)) E s)
    (hs : ∀ x, foldedSetIterable iter env x = pure x) :
    wpAny (model prog w) A (eval (.ListComp e [⟨.Name x px, iter, [], 0⟩] scope pos) env) Q E s := by
  refine wpAny_ListComp_map (fun _ => true) (fun v u => ∃ n t t', v = .int n t ∧ u = .str (S (f n)) t') hh hfree hcell hkind hnames hx (wpAny_mono h (fun xv s₁ h₁ => ?_) fun _ _ x => x) hs
  obtain ⟨a, vs, ns, rfl, hl, hvs, hsz, elt, hQ⟩ := h₁
  refine ⟨a, vs.toArray, rfl, hl, by rw [List.size_toArray]; exact hsz, ?_, ?_, ?_⟩
  · intro C v s₂ m₂ E' _ _ _ _
    exact wpAny_pure ⟨rfl, keepsRefl _⟩
  · intro C v s₂ m₂ E' hv _ hn hm hk
    obtain ⟨n, t, rfl, hmem⟩ := intsMem hvs (by simpa using hv)
    refine wpAny_mono (elt C n t s₂ m₂ E' hmem hn hm hk) (fun u s₄ q => ?_) fun _ _ x => x
    obtain ⟨⟨t', rfl⟩, hK⟩ := q
    exact ⟨⟨_, _, _, rfl, rfl⟩, hK⟩
  · intro D h' tk ys hD hl' hP hk
    rw [show vs.toArray.toList.filter (fun _ => true) = vs from by rw [List.filter_eq_self.mpr fun _ _ => rfl]] at hP
    exact hQ D h' tk ys.toList hD (by rw [Array.toArray_toList]; exact hl') (paired_IS hvs hP) hk
/-- the two tables of texts -/
def pieces : List (List Nat) := [[47], [126], [48], [49], [97], [45], [47, 126, 48], [47, 126, 49], [47, 97], [126, 48, 49], [126, 48], [47, 47]]
def names : List (List Nat) := [[97], [], [126], [47], [126, 49], [48], [126, 48], [47, 126], [45], [48, 49]]
theorem pieces_in (w : World) : ∃ vs c, (hd.heap_39 w.params).lookup 245 = some (W.listOf (List.toArray vs) c) ∧ LS vs pieces := by
  refine ⟨_, _, by k_is, ?_⟩
  unfold LS
  rw [show pieces.map S = [Str.ofString "/", Str.ofString "~", Str.ofString "0", Str.ofString "1", Str.ofString "a", Str.ofString "-", Str.ofString "/~0", Str.ofString "/~1", Str.ofString "/a", Str.ofString "~01", Str.ofString "~0", Str.ofString "//"] from by decide +kernel]
  repeat constructor
theorem names_in (w : World) : ∃ vs c, (hd.heap_39 w.params).lookup 246 = some (W.listOf (List.toArray vs) c) ∧ LS vs names := by
  refine ⟨_, _, by k_is, ?_⟩
  unfold LS
  rw [show names.map S = [Str.ofString "a", Str.ofString "", Str.ofString "~", Str.ofString "/", Str.ofString "~1", Str.ofString "0", Str.ofString "~0", Str.ofString "/~", Str.ofString "-", Str.ofString "01"] from by decide +kernel]
  repeat constructor
end
end Mine

end
section
open PySem PySem.W PySem.Calls PyProof.Rows
open PySem.Builtin PySem.Builtin.Str
set_option Elab.async false
set_option maxRecDepth 100000
set_option maxHeartbeats 400000
namespace Mine
theorem fill_it17 (P : (OpenLaw → (Params → Frag) → Prop)) (h : P PySem.Challenge.rw_jh0011_01 hd.heap_39) : P PySem.Challenge.rw_jh0011_01 hd.heap_39 := by
  k_fill
  exact h
local macro_rules | `(tactic| walk_at "m go") => `(tactic| repeat (first | ((with_reducible show wpAny _ _ _ _ _ _); (fail_if_success (with_reducible show wpAny _ _ (PySem.exec (Stmt.For _ _ _ _ _) _) _ _ _)); (fail_if_success (with_reducible show wpAny _ _ (PySem.call (Value.ref _) _ _) _ _ _)); (fail_if_success (with_reducible show wpAny _ _ (PySem.compareOp _ (Value.ref _) (Value.ref _)) _ _ _)); (fail_if_success (with_reducible show wpAny _ _ (PySem.call (Value.type _) _ _) _ _ _)); (fail_if_success (with_reducible show wpAny _ _ (PySem.binaryOp _ (Value.ref _) (Value.ref _)) _ _ _)); (fail_if_success (with_reducible show wpAny _ _ (PySem.exec (Stmt.Try _ _ _ _ _) _) _ _ _)); (fail_if_success (with_reducible show wpAny _ _ (PySem.getAttr (Value.ref _) _ _) _ _ _)); (fail_if_success (with_reducible show wpAny _ _ (PySem.eval (Expr.GeneratorExp _ _ _ _) _) _ _ _)); (fail_if_success (with_reducible show wpAny _ _ (PySem.exec (Stmt.Assign _ (Expr.ListComp _ _ _ _) _) _) _ _ _)); walk1; (try dsimp only)) | (with_reducible refine And.intro (Frag.In.keeps (by assumption) (Fr.keep (by assumption))) ?_) | (with_reducible refine split_not ?_) | (with_reducible refine ite_tt ?_) | (with_reducible refine ite_ff ?_)))
local macro_rules | `(tactic| walk_at "execs cons") => `(tactic| (refine execs_consG ?hp ?_; (case hp => first | assumption | exact Nat.succ_pos _ | exact Nat.lt_of_lt_of_le (by assumption) (Nat.le_add_right _ _) | omega); intro tk' htk'))
local macro_rules | `(tactic| walk_at "execs nil") => `(tactic| refine wpAny_execs_nil ?_)
theorem wp_cut {M : Model} {Γ : Ctx} {env : Env} {QQ : Flow → PySem.Pos → Shared → Prop} {EE : Value → PySem.Pos → Shared → Prop} : ∀ (k : Nat) (l : List Stmt) (p : PySem.Pos) (s : Shared),
    Sem.wp M Γ (execs (l.take k) env) (fun f p' s' => match f with | .next => Sem.wp M Γ (execs (l.drop k) env) QQ EE p' s' | f => QQ f p' s') EE p s → Sem.wp M Γ (execs l env) QQ EE p s
  | 0, _, _, _, h => h
  | _ + 1, [], _, _, h => h
  | k + 1, st :: r, p, s, h => by
    rw [List.take_succ_cons, execs_cons, Sem.wp_bind'] at h
    rw [execs_cons, Sem.wp_bind']
    refine Sem.wp_mono M Γ _ (fun f p' s' h' => ?_) (fun _ _ _ h' => h') _ _ h
    cases f <;> first | exact wp_cut k r p' s' h' | exact h'
/-- a run of statements, cut in two -/
theorem execs_cut {M : Model} {A : Around} {E : Value → Shared → Prop} {env : Env} {Q : Flow → Shared → Prop} {s : Shared} {l : List Stmt} (k : Nat) {mid : Shared → Prop} (h1 : wpAny M A (execs (l.take k) env) (fun f s' => f = .next ∧ mid s') E s)
    (h2 : ∀ s', mid s' → wpAny M A (execs (l.drop k) env) Q E s') : wpAny M A (execs l env) Q E s := fun Γ p hΓ =>
  wp_cut k l p s (Sem.wp_mono M Γ _ (fun f p' s' h' => by obtain ⟨rfl, hm⟩ := h'; exact h2 s' hm Γ p' hΓ) (fun _ _ _ h' => h') _ _ (h1 Γ p hΓ))
/-- the law's frame between two statements -/
structure Mid (h₀ : Heap) (L : Addr) (m : Str → Option Value) (news : List (Addr × Obj)) (s s' : Shared) : Prop where
  F : Fr h₀ L s'.heap m
  N : ∃ p q r, Trip p q r ∧ News h₀ L s'.heap (news ++ tab3 p q r)
  bare : AllBare s'.gens
  tk : 0 < s'.toks
  os : s'.os = s.os
  drawn : s'.drawn = s.drawn
end Mine

end
section
open PySem PySem.W PySem.Calls PyProof.Rows
open PySem.Builtin PySem.Builtin.Str
set_option Elab.async false
set_option maxRecDepth 100000
set_option maxHeartbeats 400000
namespace Mine
theorem fill_it18 (P : (OpenLaw → (Params → Frag) → Prop)) (h : P PySem.Challenge.rw_jh0011_01 hd.heap_39) : P PySem.Challenge.rw_jh0011_01 hd.heap_39 := by
  k_fill
  exact h
local macro_rules | `(tactic| walk_at "m go") => `(tactic| repeat (first | ((with_reducible show wpAny _ _ _ _ _ _); (fail_if_success (with_reducible show wpAny _ _ (PySem.exec (Stmt.For _ _ _ _ _) _) _ _ _)); (fail_if_success (with_reducible show wpAny _ _ (PySem.subscriptTail _ _ (Value.ref _) (Value.ref _)) _ _ _)); (fail_if_success (with_reducible show wpAny _ _ (PySem.eval (Expr.ListComp _ _ _ _) _) _ _ _)); (fail_if_success (with_reducible show wpAny _ _ (PySem.call (Value.builtin "str.join") _ _) _ _ _)); (fail_if_success (with_reducible show wpAny _ _ (PySem.call (Value.ref _) _ _) _ _ _)); (fail_if_success (with_reducible show wpAny _ _ (PySem.compareOp _ (Value.ref _) (Value.ref _)) _ _ _)); (fail_if_success (with_reducible show wpAny _ _ (PySem.call (Value.type _) _ _) _ _ _)); (fail_if_success (with_reducible show wpAny _ _ (PySem.binaryOp _ (Value.ref _) (Value.ref _)) _ _ _)); (fail_if_success (with_reducible show wpAny _ _ (PySem.exec (Stmt.Try _ _ _ _ _) _) _ _ _)); (fail_if_success (with_reducible show wpAny _ _ (PySem.getAttr (Value.ref _) _ _) _ _ _)); (fail_if_success (with_reducible show wpAny _ _ (PySem.eval (Expr.GeneratorExp _ _ _ _) _) _ _ _)); (fail_if_success (with_reducible show wpAny _ _ (PySem.exec (Stmt.Assign _ (Expr.ListComp _ _ _ _) _) _) _ _ _)); walk1; (try dsimp only)) | (with_reducible refine And.intro (Frag.In.keeps (by assumption) (Fr.keep (by assumption))) ?_) | (with_reducible refine split_not ?_) | (with_reducible refine ite_tt ?_) | (with_reducible refine ite_ff ?_)))
local macro_rules | `(tactic| walk_at "execs cons") => `(tactic| (refine execs_consG ?hp ?_; (case hp => first | assumption | exact Nat.succ_pos _ | exact Nat.lt_of_lt_of_le (by assumption) (Nat.le_add_right _ _) | omega); intro tk' htk'))
local macro_rules | `(tactic| walk_at "execs nil") => `(tactic| refine wpAny_execs_nil ?_)
theorem intsTake : ∀ {vs : List Value} {ns : List Int} (k : Nat), IntsAre vs ns → IntsAre (vs.take k) (ns.take k)
  | _, _, 0, _ => .nil
  | _, _, _ + 1, .nil => .nil
  | _, _, k + 1, .cons n t r => .cons n t (intsTake k r)
theorem lit2 {o : Option Obj} {oc oc' : Value} {od od' : Option Addr} {osl osl' : Array (Option Value)} {name qual name' qual' : Str} {params params' : Arguments} {body body' : List Stmt} {scope scope' : Scope} {dV kV doc pm cdv ct dV' kV' doc' pm' cdv' ct' : Value} {an an' : Option Addr} {P : List Stmt → Scope → Prop}
    (ho : o = some ⟨oc, od, .func (fnOf name qual params body scope dV kV doc pm an cdv ct), osl⟩) (ho' : o = some ⟨oc', od', .func (fnOf name' qual' params' body' scope' dV' kV' doc' pm' an' cdv' ct'), osl'⟩) (h : P body' scope') : P body scope := by
  rw [ho] at ho'
  injection ho' with e
  injection e with _ _ e _
  injection e with e
  injection e with _ _ _ e1 e2
  injection e1 with e1
  subst e1 e2
  exact h
abbrev mA (a : Addr) (tt : List Nat) (t : Tok) (v : Value) : Str → Option Value := fun y => if y = Str.ofString "tokens" then some v else if y = Str.ofString "text" then some (.str (S tt) t) else [(Str.ofString "script", Value.ref a)].reverse.lookup y
abbrev mP (a : Addr) (tt : List Nat) (t : Tok) (v1 v2 v3 : Value) : Str → Option Value := fun y => if y = Str.ofString "split" then some v3 else if y = Str.ofString "pointer" then some v2 else mA a tt t v1 y
def postA (h₀ : Heap) (L a : Addr) (s₀ s' : Shared) : Prop := ∃ tt t, tt.length ≤ 42 ∧ A7 tt ∧ ((¬ Valid tt ∧ Mid h₀ L (mA a tt t .none) [] s₀ s') ∨
  (Valid tt ∧ ∃ b vs c, LS vs (toksOf tt) ∧ Mid h₀ L (mA a tt t (.ref b)) [(b, W.listOf (List.toArray vs) c)] s₀ s'))
theorem tt_ok (ns : List Int) : (((ns.take 14).map fun (n : Int) => pieces.getD (n.fmod 12).toNat []).flatten).length ≤ 42 ∧ A7 (((ns.take 14).map fun (n : Int) => pieces.getD (n.fmod 12).toNat []).flatten) := by
  have hp : ∀ i : Nat, (pieces.getD i []).length ≤ 3 ∧ A7 (pieces.getD i []) := by
    intro i
    by_cases h : i < 12
    · have : ∀ i < 12, (pieces.getD i []).length ≤ 3 ∧ ∀ c ∈ pieces.getD i [], c < 128 := by decide +kernel
      exact this i h
    · rw [List.getD_eq_getElem?_getD, List.getElem?_eq_none (by show 12 ≤ i; omega)]
      exact ⟨by simp, fun c hc => by simp at hc⟩
  have gen : ∀ ms : List Int, ((ms.map fun (n : Int) => pieces.getD (n.fmod 12).toNat []).flatten).length ≤ 3 * ms.length ∧ A7 ((ms.map fun (n : Int) => pieces.getD (n.fmod 12).toNat []).flatten) := by
    intro ms
    induction ms with
    | nil => exact ⟨by simp, fun c hc => by simp at hc⟩
    | cons x r ih =>
      rw [List.map_cons, List.flatten_cons, List.length_append, List.length_cons]
      refine ⟨by have := (hp (x.fmod 12).toNat).1; have := ih.1; omega, fun c hc => ?_⟩
      rcases List.mem_append.mp hc with hc | hc
      · exact (hp _).2 c hc
      · exact ih.2 c hc
  have g := gen (ns.take 14)
  have hl : (ns.take 14).length ≤ 14 := by rw [List.length_take]; omega
  exact ⟨by omega, g.2⟩
section
variable {w : World} {s s₀ : Shared} {loose : List Str} {mg mb : Str → Option Value} {h₀ : Heap} {L a : Addr} {vs : List Value} {ns : List Int} {m : Str → Option Value}
  {oc : Value} {od : Option Addr} {osl : Array (Option Value)} {params : Arguments} {body : List Stmt} {scope : Scope} {dV kV doc pm ct : Value} {an : Option Addr}
theorem phaseA1 (ho : (hd.heap_39 w.params).lookup 272 = some ⟨oc, od, .func (fnOf (Str.ofString "law") (Str.ofString "law") params body scope dV kV doc pm an (.ref 271) ct), osl⟩)
    (C0 : Cx w loose mg mb h₀) (hn0 : ∀ b ∈ tabs, h₀.get? b = none) (I : h₀.IsList a vs.toArray) (hi : IntsAre vs ns) (hz' : vs.length ≤ 100000) (M : Mid h₀ L (fun y => [(Str.ofString "script", Value.ref a)].reverse.lookup y) [] s₀ s) :
    wpAny (model prog w) (callerA.deeper (envOf (Str.ofString "law") scope L 272 (.ref 271))) (execs (body.take 2) (envOf (Str.ofString "law") scope L 272 (.ref 271)))
      (fun f s' => f = .next ∧ postA h₀ L a s₀ s') (fun _ _ => False) s := by
  refine' lit2 (P := fun body scope => wpAny (model prog w) (callerA.deeper (envOf (Str.ofString "law") scope L 272 (.ref 271))) (execs (body.take 2) (envOf (Str.ofString "law") scope L 272 (.ref 271)))
      (fun f s' => f = .next ∧ postA h₀ L a s₀ s') (fun _ _ => False) s) ho ?h1 ?_
  case h1 => k_is
  clear ho
  obtain ⟨hh₀, g, d, tk, os⟩ := s
  obtain ⟨F, ⟨p, q, r, trip, N⟩, bare, htk, eos, edr⟩ := M
  have X := C0.X
  have T := C0.T
  have K0 := below_caller h₀
  dsimp only [List.take, List.nil_append] at F N htk bare eos edr ⊢
  walk_at "m go"
  refine wpAny_with_toks (n := 1) (Nat.succ_pos _) ?_
  refine compIE (f := fun n => pieces.getD (n.fmod 12).toNat []) rfl (by decide) (by decide) rfl (by decide) rfl ?_ (fun _ => rfl)
  walk_at "m go"
  refine' takeL (k := 14) F N (I.at fun o e => F.keep _ _ e) hz' ?tk ?ths ?tht
  case ths => with_unfolding_all rfl
  case tht => intro _; with_unfolding_all rfl
  intro D1 h1 F1 N1 _
  have hint := intsTake 14 hi
  have X1 := X.keeps F1.keep
  have T1 := T.keeps F1.keep
  refine ⟨D1, vs.take 14, ns.take 14, rfl, PySem.IsL.isList (N1 _ (.head _)).1, hint, by rw [List.length_take, sizeLine_eq]; omega, ?_, ?_⟩
  · intro C n t s₃ m₃ E' hn hns hm3 hk
    obtain ⟨th, tg, td, ttk, tos⟩ := s₃
    dsimp only at hns hk ⊢
    have X3 := X1.keeps hk
    have T3 := T1.keeps hk
    refine Subscript_ ?_
    refine' nameG X3 T3 ?n1 ?_ ?n2 ?n3 ?n4 ?n5
    case n1 => k_is
    case n2 => exact rfl
    case n3 => exact rfl
    case n4 => exact rfl
    case n5 => decide
    refine wpAny_BinOp ?_
    refine nameL hns hm3 ?_ rfl rfl (by decide)
    refine wpAny_Constant_int ?_
    refine mod_int (by decide) ?_
    obtain ⟨us, cu, hlk, hus⟩ := pieces_in w
    have h0 : 0 ≤ n.fmod 12 := Int.fmod_nonneg_of_pos _ (by decide)
    have h12 : n.fmod 12 < 12 := Int.fmod_lt_of_pos _ (by decide)
    have hlt : (n.fmod 12).toNat < pieces.length := by show (n.fmod 12).toNat < 12; omega
    obtain ⟨tv, hv⟩ := hus.get (List.getElem?_eq_getElem hlt)
    refine Mine.getL (PySem.IsL.isList (X3 _ _ hlk)) h0 (by omega) hv ?_
    refine ⟨⟨tv, ?_⟩, ⟨_, _, rfl, fun _ _ e => e⟩⟩
    rw [List.getD_eq_getElem?_getD, List.getElem?_eq_getElem hlt]; rfl
  · intro D2 h2 tk2 ys hD2 hl2 hys hk2 htk2
    have F2 := frK F1 hk2
    have N2 := newsK N1 hk2
    generalize htt : ((ns.take 14).map fun (n : Int) => pieces.getD (n.fmod 12).toNat []).flatten = tt
    have htl : tt.length ≤ 42 ∧ A7 tt := htt ▸ tt_ok ns
    walk_at "m go"
    refine wpAny_with_toks (n := 1) htk2 ?_
    refine join_list (ys := ((ns.take 14).map fun (n : Int) => pieces.getD (n.fmod 12).toNat []).map S) hl2 (show StrsAre ys _ from hys) ?_ (fun t3 k3 => ?_)
    · have e : ((((ns.take 14).map fun (n : Int) => pieces.getD (n.fmod 12).toNat []).map S).map (·.length)).sum = tt.length := by
        rw [← htt, List.length_flatten, List.map_map]
        exact congrArg List.sum (List.map_congr_left fun l _ => S_length l)
      rw [e, show (Str.ofString "").length = 0 from by decide +kernel, Nat.mul_zero]
      exact Nat.le_trans htl.1 (by decide)
    intro hk3
    rw [joinE, htt]
    clear hl2 hys hD2 htt hk2 F1 N1 F N X1 T1
    have N3 : News h₀ L h2 (tab3 p q r) := fun y hy => N2 y (.tail _ hy)
    clear N2
    dsimp only at hk3 ⊢
    walk_at "m go"
    rename_i h4 F4 N4 tk4 htk4
    refine' useK (P := fun v s' => (rd tt = none ∧ v = .none) ∨ ∃ ts a vs c, rd tt = some ts ∧ v = .ref a ∧ s'.heap.get? a = some (W.listOf (List.toArray vs) c) ∧ LS vs ts ∧ h4.get? a = none) ?sp ?d3 ?_
    case sp => exact wpAny_mono (tokens_spec (X.keeps F4.keep) (T.keeps F4.keep) (by simp only [depth_deeper, depth_caller]; decide) (by rw [units_deeper, units_caller, cLine_is]; decide) rfl (by omega) htl.2) (fun v s' h => ⟨h.2, h.1⟩) fun _ _ x => x
    case d3 => assumption
    intro v h5 tk5 hv5 hk5 htk5
    have F5 := frK F4 hk5
    have N5 := newsK N4 hk5
    dsimp only at F5 N5 hv5 ⊢
    rcases rd_spec tt with ⟨hva, hrd⟩ | ⟨hnv, hrd⟩
    · rcases hv5 with ⟨hrd', _⟩ | ⟨ts, b, us, c, hrd', rfl, hb, hus, hbn⟩
      · rw [hrd] at hrd'; cases hrd'
      · rw [hrd] at hrd'
        obtain rfl := Option.some.inj hrd'
        have N6 := newsAdd F4 N5 hbn hb
        walk_at "m go"
        rename_i h6 F6 N6' 
        exact ⟨rfl, tt, t3, htl.1, htl.2, .inr ⟨hva, b, us, c, hus, ⟨F6, ⟨p, q, r, trip, N6'⟩, bare, Nat.succ_pos _, eos, edr⟩⟩⟩
    · rcases hv5 with ⟨_, rfl⟩ | ⟨ts, a', _, _, hrd', _⟩
      · walk_at "m go"
        rename_i h6 F6 N6'
        exact ⟨rfl, tt, t3, htl.1, htl.2, .inl ⟨hnv, ⟨F6, ⟨p, q, r, trip, N6'⟩, bare, Nat.succ_pos _, eos, edr⟩⟩⟩
      · rw [hrd] at hrd'; cases hrd'
end
end Mine

end
section
open PySem PySem.W PySem.Calls PyProof.Rows
open PySem.Builtin PySem.Builtin.Str
set_option Elab.async false
set_option maxRecDepth 100000
set_option maxHeartbeats 400000
namespace Mine
theorem fill_it19 (P : (OpenLaw → (Params → Frag) → Prop)) (h : P PySem.Challenge.rw_jh0011_01 hd.heap_39) : P PySem.Challenge.rw_jh0011_01 hd.heap_39 := by
  k_fill
  exact h
local macro_rules | `(tactic| walk_at "m go") => `(tactic| repeat (first | ((with_reducible show wpAny _ _ _ _ _ _); (fail_if_success (with_reducible show wpAny _ _ (PySem.exec (Stmt.For _ _ _ _ _) _) _ _ _)); (fail_if_success (with_reducible show wpAny _ _ (PySem.subscriptTail _ _ (Value.ref _) (Value.ref _)) _ _ _)); (fail_if_success (with_reducible show wpAny _ _ (PySem.eval (Expr.ListComp _ _ _ _) _) _ _ _)); (fail_if_success (with_reducible show wpAny _ _ (PySem.call (Value.builtin "str.join") _ _) _ _ _)); (fail_if_success (with_reducible show wpAny _ _ (PySem.call (Value.ref _) _ _) _ _ _)); (fail_if_success (with_reducible show wpAny _ _ (PySem.compareOp _ (Value.ref _) (Value.ref _)) _ _ _)); (fail_if_success (with_reducible show wpAny _ _ (PySem.call (Value.type _) _ _) _ _ _)); (fail_if_success (with_reducible show wpAny _ _ (PySem.binaryOp _ (Value.ref _) (Value.ref _)) _ _ _)); (fail_if_success (with_reducible show wpAny _ _ (PySem.exec (Stmt.Try _ _ _ _ _) _) _ _ _)); (fail_if_success (with_reducible show wpAny _ _ (PySem.getAttr (Value.ref _) _ _) _ _ _)); (fail_if_success (with_reducible show wpAny _ _ (PySem.eval (Expr.GeneratorExp _ _ _ _) _) _ _ _)); (fail_if_success (with_reducible show wpAny _ _ (PySem.exec (Stmt.Assign _ (Expr.ListComp _ _ _ _) _) _) _ _ _)); walk1; (try dsimp only)) | (with_reducible refine And.intro (Frag.In.keeps (by assumption) (Fr.keep (by assumption))) ?_) | (with_reducible refine split_not ?_) | (with_reducible refine ite_tt ?_) | (with_reducible refine ite_ff ?_)))
local macro_rules | `(tactic| walk_at "execs cons") => `(tactic| (refine execs_consG ?hp ?_; (case hp => first | assumption | exact Nat.succ_pos _ | exact Nat.lt_of_lt_of_le (by assumption) (Nat.le_add_right _ _) | omega); intro tk' htk'))
local macro_rules | `(tactic| walk_at "execs nil") => `(tactic| refine wpAny_execs_nil ?_)
section
variable {w : World} {s s₀ : Shared} {loose : List Str} {mg mb : Str → Option Value} {h₀ : Heap} {L a : Addr} {tt : List Nat} {t : Tok}
  {oc : Value} {od : Option Addr} {osl : Array (Option Value)} {params : Arguments} {body : List Stmt} {scope : Scope} {dV kV doc pm ct : Value} {an : Option Addr}
theorem phaseBad (ho : (hd.heap_39 w.params).lookup 272 = some ⟨oc, od, .func (fnOf (Str.ofString "law") (Str.ofString "law") params body scope dV kV doc pm an (.ref 271) ct), osl⟩)
    (C0 : Cx w loose mg mb h₀) (htl : tt.length ≤ 42) (hnv : ¬ Valid tt) (M : Mid h₀ L (mA a tt t .none) [] s₀ s) :
    wpAny (model prog w) (callerA.deeper (envOf (Str.ofString "law") scope L 272 (.ref 271))) (execs ((body.drop 2).take 3) (envOf (Str.ofString "law") scope L 272 (.ref 271)))
      (fun f s' => f = .next ∧ ∃ tt t v1 v2 v3, Mid h₀ L (mP a tt t v1 v2 v3) [] s₀ s') (fun _ _ => False) s := by
  refine' lit2 (P := fun body scope => wpAny (model prog w) (callerA.deeper (envOf (Str.ofString "law") scope L 272 (.ref 271))) (execs ((body.drop 2).take 3) (envOf (Str.ofString "law") scope L 272 (.ref 271)))
      (fun f s' => f = .next ∧ ∃ tt t v1 v2 v3, Mid h₀ L (mP a tt t v1 v2 v3) [] s₀ s') (fun _ _ => False) s) ho ?h1 ?_
  case h1 => k_is
  clear ho
  obtain ⟨hh₀, g, d, tk, os⟩ := s
  obtain ⟨F, ⟨p, q, r, trip, N⟩, bare, htk, eos, edr⟩ := M
  have X := C0.X
  have T := C0.T
  have K0 := below_caller h₀
  dsimp only [List.take, List.drop, List.nil_append, mA] at F N htk bare eos edr ⊢
  walk_at "m go"
  walk1
  walk_at "m go"
  refine wpAny_call (ptr_bad X T K0 F N rfl rfl (by simp only [depth_deeper, depth_caller]; decide) rfl (by assumption) (by omega) hnv (fun g3 e t' vs n₂ h3 tk3 htk3 F3 RK U => ?_))
  dsimp only
  walk1
  walk_at "m go"
  rename_i h4 F4 N4 tk4 htk4
  have N5 : News h₀ L h4 (tab3 p q r) := fun y hy => N4 y (List.mem_append_right _ hy)
  clear N4
  try clear F
  try clear N
  try clear F3
  try clear RK
  try clear U
  dsimp only [mA] at F4
  walk1
  walk_at "m go"
  refine wpAny_call (split_bad X T K0 F4 N5 rfl rfl (by simp only [depth_deeper, depth_caller]; decide) rfl (by assumption) (by omega) hnv (fun g3 e t' vs n₂ h3 tk3 htk3 F3 RK U => ?_))
  dsimp only
  walk1
  walk_at "m go"
  refine ⟨rfl, tt, t, _, _, _, ⟨by assumption, ⟨p, q, r, trip, fun y hy => ?_⟩, bare, by assumption, eos, edr⟩⟩
  · exact (show News h₀ L _ (n₂ ++ tab3 p q r) by assumption) y (List.mem_append_right _ hy)
end
end Mine

end
section
open PySem PySem.W PySem.Calls PyProof.Rows
open PySem.Builtin PySem.Builtin.Str
set_option Elab.async false
set_option maxRecDepth 100000
set_option maxHeartbeats 400000
namespace Mine
theorem fill_it22 (P : (OpenLaw → (Params → Frag) → Prop)) (h : P PySem.Challenge.rw_jh0011_01 hd.heap_39) : P PySem.Challenge.rw_jh0011_01 hd.heap_39 := by
  k_fill
  exact h
local macro_rules | `(tactic| walk_at "m go") => `(tactic| repeat (first | ((with_reducible show wpAny _ _ _ _ _ _); (fail_if_success (with_reducible show wpAny _ _ (PySem.exec (Stmt.For _ _ _ _ _) _) _ _ _)); (fail_if_success (with_reducible show wpAny _ _ (PySem.call (Value.ref _) _ _) _ _ _)); (fail_if_success (with_reducible show wpAny _ _ (PySem.compareOp _ (Value.ref _) (Value.ref _)) _ _ _)); (fail_if_success (with_reducible show wpAny _ _ (PySem.call (Value.type _) _ _) _ _ _)); (fail_if_success (with_reducible show wpAny _ _ (PySem.binaryOp _ (Value.ref _) (Value.ref _)) _ _ _)); (fail_if_success (with_reducible show wpAny _ _ (PySem.exec (Stmt.Try _ _ _ _ _) _) _ _ _)); (fail_if_success (with_reducible show wpAny _ _ (PySem.getAttr (Value.ref _) _ _) _ _ _)); (fail_if_success (with_reducible show wpAny _ _ (PySem.eval (Expr.GeneratorExp _ _ _ _) _) _ _ _)); (fail_if_success (with_reducible show wpAny _ _ (PySem.exec (Stmt.Assign _ (Expr.ListComp _ _ _ _) _) _) _ _ _)); walk1; (try dsimp only)) | (with_reducible refine And.intro (Frag.In.keeps (by assumption) (Fr.keep (by assumption))) ?_) | (with_reducible refine split_not ?_) | (with_reducible refine ite_tt ?_) | (with_reducible refine ite_ff ?_)))
local macro_rules | `(tactic| walk_at "execs cons") => `(tactic| (refine execs_consG ?hp ?_; (case hp => first | assumption | exact Nat.succ_pos _ | exact Nat.lt_of_lt_of_le (by assumption) (Nat.le_add_right _ _) | omega); intro tk' htk'))
local macro_rules | `(tactic| walk_at "execs nil") => `(tactic| refine wpAny_execs_nil ?_)
def clsOk (l : List (Addr × Obj)) : Bool := l.all fun x => match x.2.cls with | .none => false | _ => true
theorem clsOk_ne {l : List (Addr × Obj)} (h : clsOk l = true) : ∀ x ∈ l, x.2.cls ≠ .none := by
  intro x hx e
  have := List.all_eq_true.mp h x hx
  rw [e] at this
  cases this
section
variable {w : World} {A : Around} {E : Value → Shared → Prop} {loose : List Str} {mg mb : Str → Option Value}
/-- a frame behind a call that used a generator -/
theorem afterT (k : Nat) {h₀ h : Heap} {L : Addr} {m : Str → Option Value} {g : Array GenState} {d : Drawn} {tk : Nat} {os : OsState} {s' : Shared} {news : List (Addr × Obj)} {p q r : Array Value} (K : KeepsT ⟨h, g, d, tk, os⟩ s') (F : Fr h₀ L h m) (N : News h₀ L h news) (hn0 : ∀ b ∈ tabs, h₀.get? b = none) (t : Trip p q r)
    (e : news = news.take k ++ tab3 p q r) (hc : clsOk (news.take k) = true) :
    ∃ h' g' tk' p' q' r', s' = ⟨h', g', d, tk', os⟩ ∧ Fr h₀ L h' m ∧ News h₀ L h' (news.take k ++ tab3 p' q' r') ∧ Trip p' q' r' ∧ AllBare g' ∧ 0 < tk' := by
  have N' : News h₀ L h (news.take k ++ tab3 p q r) := e ▸ N
  obtain ⟨p', q', r', t', N2⟩ := newsT (s := ⟨h, g, d, tk, os⟩) N' (notTab N' t (clsOk_ne hc)) K
  have F2 := frT (s := ⟨h, g, d, tk, os⟩) F hn0 (notL N') K
  obtain ⟨h', g', d', tk', os'⟩ := s'
  obtain rfl : os' = os := K.os
  obtain rfl : d' = d := K.drawn
  exact ⟨h', g', tk', p', q', r', rfl, F2, N2, t', K.bare, K.tk⟩
/-- the context at a point of a frame -/
theorem cgAt (k : Nat) {h₀ h : Heap} {L : Addr} {m : Str → Option Value} {g : Array GenState} {d : Drawn} {tk : Nat} {os : OsState} {news : List (Addr × Obj)} {p q r : Array Value} (C0 : Cx w loose mg mb h₀) (F : Fr h₀ L h m) (N : News h₀ L h news) (t : Trip p q r) (hb : AllBare g) (htk : 0 < tk)
    (e : news = news.take k ++ tab3 p q r) : Cg w loose mg mb ⟨h, g, d, tk, os⟩ :=
  ⟨C0.keeps F.keep, newsTabs (rest := news.take k) (e ▸ N) t, hb, htk⟩
theorem KeepsT.toks {s s' : Shared} {n : Nat} (K : KeepsT { s with toks := n } s') : KeepsT s s' := ⟨K.keep, K.tabs, K.bare, K.tk, K.os, K.drawn⟩
theorem getPath {s : Shared} {x : Addr} {ps : List (List Nat)} {e : Bool} {Q : Value → Shared → Prop} (C : Cg w loose mg mb s) (P : PtrIn s.heap x ps) (hdp : A.depth + 10 < recursionLimit) (hh : A.handled = none) (hl : (pathOf ps).length ≤ 100000)
    (h : ∀ t s', KeepsT s s' → Q (.str (S (pathOf ps)) t) s') : wpAny (model prog w) A (getAttr (.ref x) (Str.ofString "path") e) Q E s := by
  have P' := P
  obtain ⟨dx, l, vs, c, tk, n, hs, a, b, d, g⟩ := P
  have k1 : plainGet (hd.heap_39 w.params) 205 (Str.ofString "path") = true := by k_is
  have k2 : hasDictIn (hd.heap_39 w.params) 205 = true := by k_is
  have k3 : findIn (hd.heap_39 w.params) (.ref 205) (Str.ofString "path") = some (some (.ref 180)) := by k_is
  have k4 : specialIn (hd.heap_39 w.params) (.ref 180) "__get__" = some (some (.builtin "property.__get__")) := by k_is
  have k5 : takesIn (hd.heap_39 w.params) (.ref 180) = some true := by k_is
  obtain ⟨rest, k6⟩ : ∃ rest, recIn (hd.heap_39 w.params) 180 "property" = some (.ref 179 :: rest) := ⟨_, by k_is⟩
  have X := C.cx.X
  refine get_bind X (C := 205) (od := some (dictOf [⟨hs, .str (Str.ofString "parts") tk, .ref l⟩] n)) ⟨a, rfl, rfl, b⟩ (plainGet_of k1).1 (findObj_data (by obtain ⟨cd, hc, _⟩ := any_some k2; rw [hc]; rfl) k3 k4 k5) (plainGet_of k1).2 (wpAny_call (prop_get (s := { s with toks := s.toks + 1 }) X k6 ?_))
  refine path_code (loose := loose) (mg := mg) (mb := mb) (ps := ps) ⟨C.cx, C.tabs, C.bare, Nat.succ_pos _⟩ P' (by show A.depth + 5 < _; omega) hh hl (fun t s' K => ?_)
  exact handed_on rfl (h t s' K.toks)
end
theorem a7_path {ps : List (List Nat)} (h : A7 (pathOf ps)) : A7L ps := by
  intro p hp c hc
  obtain ⟨a, b, rfl⟩ := List.append_of_mem hp
  by_cases h1 : c = 126
  · omega
  by_cases h2 : c = 47
  · omega
  refine h c ?_
  rw [pathOf_append, pathOf_cons]
  refine List.mem_append.mpr (.inr (.tail _ (List.mem_append.mpr (.inl ?_))))
  unfold esc
  refine List.mem_flatMap.mpr ⟨c, hc, ?_⟩
  unfold escC
  rw [if_neg h1, if_neg h2]
  exact .head _
theorem a7_toks {l : List Nat} (hv : Valid l) (h : A7 l) : A7L (toksOf l) := a7_path (by rw [pathOf_toksOf l hv]; exact h)
theorem ptrNews {h₀ h : Heap} {L x dx l : Addr} {news : List (Addr × Obj)} {ps : List (List Nat)} {vs : List Value} {c n : Nat} {tk : Tok} {hs : Int} (N : News h₀ L h news) (hvs : LS vs ps)
    (h1 : (x, instObj 205 dx) ∈ news) (h2 : (dx, dictOf [⟨hs, .str (Str.ofString "parts") tk, .ref l⟩] n) ∈ news) (h3 : (l, W.listOf vs.toArray c) ∈ news) : PtrIn h x ps :=
  ⟨dx, l, vs, c, tk, n, hs, (N _ h1).1, (N _ h2).1, (N _ h3).1, hvs⟩
theorem frHid {h₀ h : Heap} {L : Addr} {m : Str → Option Value} (F : Fr h₀ L h m) (hn0 : ∀ b ∈ tabs, h₀.get? b = none) (hL : L ∉ tabs) : Fr h₀ L (hid h) m :=
  ⟨F.ns.at' fun o e => hideAll_get _ e hL, fun b o e => hideAll_get _ (F.keep b o e) (fun hb => by rw [hn0 b hb] at e; cases e), F.above⟩
end Mine

end
section
open PySem PySem.W PySem.Calls PyProof.Rows
open PySem.Builtin PySem.Builtin.Str
set_option Elab.async false
set_option maxRecDepth 100000
set_option maxHeartbeats 400000
namespace Mine
theorem fill_it21 (P : (OpenLaw → (Params → Frag) → Prop)) (h : P PySem.Challenge.rw_jh0011_01 hd.heap_39) : P PySem.Challenge.rw_jh0011_01 hd.heap_39 := by
  k_fill
  exact h
local macro_rules | `(tactic| walk_at "m go") => `(tactic| repeat (first | ((with_reducible show wpAny _ _ _ _ _ _); (fail_if_success (with_reducible show wpAny _ _ (PySem.exec (Stmt.For _ _ _ _ _) _) _ _ _)); (fail_if_success (with_reducible show wpAny _ _ (PySem.subscriptTail _ _ (Value.ref _) (Value.ref _)) _ _ _)); (fail_if_success (with_reducible show wpAny _ _ (PySem.eval (Expr.ListComp _ _ _ _) _) _ _ _)); (fail_if_success (with_reducible show wpAny _ _ (PySem.call (Value.builtin "str.join") _ _) _ _ _)); (fail_if_success (with_reducible show wpAny _ _ (PySem.call (Value.ref _) _ _) _ _ _)); (fail_if_success (with_reducible show wpAny _ _ (PySem.compareOp _ (Value.ref _) (Value.ref _)) _ _ _)); (fail_if_success (with_reducible show wpAny _ _ (PySem.call (Value.type _) _ _) _ _ _)); (fail_if_success (with_reducible show wpAny _ _ (PySem.binaryOp _ (Value.ref _) (Value.ref _)) _ _ _)); (fail_if_success (with_reducible show wpAny _ _ (PySem.exec (Stmt.Try _ _ _ _ _) _) _ _ _)); (fail_if_success (with_reducible show wpAny _ _ (PySem.getAttr (Value.ref _) _ _) _ _ _)); (fail_if_success (with_reducible show wpAny _ _ (PySem.eval (Expr.GeneratorExp _ _ _ _) _) _ _ _)); (fail_if_success (with_reducible show wpAny _ _ (PySem.exec (Stmt.Assign _ (Expr.ListComp _ _ _ _) _) _) _ _ _)); walk1; (try dsimp only)) | (with_reducible refine And.intro (Frag.In.keeps (by assumption) (Fr.keep (by assumption))) ?_) | (with_reducible refine split_not ?_) | (with_reducible refine ite_tt ?_) | (with_reducible refine ite_ff ?_)))
local macro_rules | `(tactic| walk_at "execs cons") => `(tactic| (refine execs_consG ?hp ?_; (case hp => first | assumption | exact Nat.succ_pos _ | exact Nat.lt_of_lt_of_le (by assumption) (Nat.le_add_right _ _) | omega); intro tk' htk'))
local macro_rules | `(tactic| walk_at "execs nil") => `(tactic| refine wpAny_execs_nil ?_)
section
variable {w : World} {s s₀ : Shared} {loose : List Str} {mg mb : Str → Option Value} {h₀ : Heap} {L a : Addr} {tt : List Nat} {t : Tok} {b : Addr} {vs : List Value} {c : Nat}
  {oc : Value} {od : Option Addr} {osl : Array (Option Value)} {params : Arguments} {body : List Stmt} {scope : Scope} {dV kV doc pm ct : Value} {an : Option Addr}
theorem phaseGood (ho : (hd.heap_39 w.params).lookup 272 = some ⟨oc, od, .func (fnOf (Str.ofString "law") (Str.ofString "law") params body scope dV kV doc pm an (.ref 271) ct), osl⟩)
    (C0 : Cx w loose mg mb h₀) (htl : tt.length ≤ 42) (h7 : A7 tt) (hv : Valid tt) (hn0 : ∀ b ∈ tabs, h₀.get? b = none) (hvs : LS vs (toksOf tt)) (M : Mid h₀ L (mA a tt t (.ref b)) [(b, W.listOf (List.toArray vs) c)] s₀ s) :
    wpAny (model prog w) (callerA.deeper (envOf (Str.ofString "law") scope L 272 (.ref 271))) (execs ((body.drop 2).take 3) (envOf (Str.ofString "law") scope L 272 (.ref 271)))
      (fun f s' => f = .next ∧ ∃ tt t v1 v2 v3, Mid h₀ L (mP a tt t v1 v2 v3) [] s₀ s') (fun _ _ => False) s := by
  refine' lit2 (P := fun body scope => wpAny (model prog w) (callerA.deeper (envOf (Str.ofString "law") scope L 272 (.ref 271))) (execs ((body.drop 2).take 3) (envOf (Str.ofString "law") scope L 272 (.ref 271)))
      (fun f s' => f = .next ∧ ∃ tt t v1 v2 v3, Mid h₀ L (mP a tt t v1 v2 v3) [] s₀ s') (fun _ _ => False) s) ho ?h1 ?_
  case h1 => k_is
  clear ho
  obtain ⟨hh₀, g, d, tk, os⟩ := s
  obtain ⟨F, ⟨p, q, r, trip, N⟩, bare, htk, eos, edr⟩ := M
  have hL := notL N
  have X := C0.X
  have T := C0.T
  have K0 := below_caller h₀
  dsimp only [List.take, List.drop, List.nil_append, mA] at F N htk bare eos edr ⊢
  walk_at "m go"
  walk1
  walk_at "m go"
  refine' useK ?sp ?d3 ?_
  case sp => exact ptr_spec (X.keeps F.keep) (T.keeps F.keep) (by simp only [depth_deeper, depth_caller]; decide) (by rw [units_deeper, units_caller, cLine_is]; decide) rfl (by assumption) (by omega) hv
  case d3 => assumption
  intro v h8 tk9 hv8 hk8 htk9
  obtain ⟨x, rfl, hx⟩ := hv8
  have F8 := frK F hk8
  have N8 := newsK N hk8
  obtain ⟨dx, l1, us, cu, tku, n, hs, hus, N9⟩ := newsPtr F N8 hx
  clear N8 N hx F
  dsimp only [List.cons_append, List.nil_append] at F8 N9 ⊢
  walk_at "m go"
  walk1
  walk_at "m go"
  rename Fr h₀ L _ _ => F10
  rename News h₀ L _ _ => N10
  refine' useK ?sp ?d3 ?_
  case sp => exact split_spec (X.keeps F10.keep) (T.keeps F10.keep) (by simp only [depth_deeper, depth_caller]; decide) (by rw [units_deeper, units_caller, cLine_is]; decide) rfl (by assumption) (by omega) hv
  case d3 => assumption
  intro v h11 tk11 hv11 hk11 htk11
  obtain ⟨sp, ws, cw, rfl, hsp, hws, hspn⟩ := hv11
  have F11 := frK F10 hk11
  have N11 := newsAdd F10 (newsK N10 hk11) hspn hsp
  clear N10 F10
  dsimp only at F11 N11 ⊢
  walk_at "m go"
  have a7 := a7_toks hv h7
  walk1
  walk_at "m go"
  rename Fr h₀ L _ _ => F12
  rename News h₀ L _ _ => N12
  refine neLists (N12.isList (.tail _ (.tail _ (.tail _ (.head _))))) (N12.isList (.tail _ (.tail _ (.tail _ (.tail _ (.head _)))))) hus hvs a7 a7 (by rw [units_deeper, units_caller, cLine_is]; decide) ?_
  rw [show (!decide (toksOf tt = toksOf tt)) = false from by simp]
  walk_at "m go"
  have hpl : (pathOf (toksOf tt)).length ≤ 100000 := by rw [pathOf_toksOf tt hv]; omega
  refine getPath (cgAt 5 C0 F12 N12 trip bare (Nat.succ_pos _) rfl) (ptrNews N12 hus (.tail _ (.head _)) (.tail _ (.tail _ (.head _))) (.tail _ (.tail _ (.tail _ (.head _))))) (by simp only [depth_deeper, depth_caller]; decide) rfl hpl (fun t1 s1 K1 => ?_)
  obtain ⟨h13, g13, tk13, p, q, r, rfl, F13, N13, trip, bare, htk13⟩ := afterT 5 K1 F12 N12 hn0 trip rfl rfl
  clear K1 F12 N12
  dsimp only [List.take, List.cons_append, List.nil_append] at N13
  rw [pathOf_toksOf tt hv]
  walk_at "m go"
  rw [show (S tt != S tt) = false from by simp]
  walk_at "m go"
  rename Fr h₀ L _ _ => F14
  rename News h₀ L _ _ => N14
  refine tuple_ofL F14 N14 (N14.isList (.tail _ (.tail _ (.tail _ (.tail _ (.head _)))))) (fun D15 h15 F15 N15 _ => ?_) (by rw [hvs.length, ← hws.length, sizeLine_eq]; have := pathOf_count (toksOf tt); rw [hws.length]; omega)
  dsimp only
  refine neTuples (N15.isTup (.tail _ (.head _))) (N15.isTup (.head _)) hws hvs a7 a7 (by rw [units_deeper, units_caller, cLine_is]; decide) ?_
  rw [show (!decide (toksOf tt = toksOf tt)) = false from by simp]
  clear F14 N14
  walk_at "m go"
  rename Fr h₀ L _ _ => F16
  rename News h₀ L _ _ => N16
  refine join_code (cgAt 6 C0 F16 N16 trip bare (by assumption) rfl) (N16.isList (.tail _ (.tail _ (.tail _ (.tail _ (.tail _ (.head _))))))) hvs.items (by simp only [depth_deeper, depth_caller]; decide) rfl hpl (fun t1 s1 K1 => ?_)
  obtain ⟨h17, g17, tk17, p, q, r, rfl, F17, N17, trip, bare, htk17⟩ := afterT 6 K1 F16 N16 hn0 trip rfl rfl
  clear K1 F16 N16
  dsimp only [List.take, List.cons_append, List.nil_append] at N17
  rw [pathOf_toksOf tt hv]
  walk_at "m go"
  rw [show (S tt != S tt) = false from by simp]
  walk_at "m go"
  walk1
  dsimp only
  walk_at "m go"
  rename Fr h₀ L _ _ => F18
  rename News h₀ L _ _ => N18
  refine ⟨methP N18 (.head _) (X.keeps F18.keep), ?_⟩
  refine call_meth N18 (.head _) ?_
  refine from_code (cgAt 7 C0 F18 N18 trip bare (Nat.succ_pos _) rfl) (N18.isList (.tail _ (.tail _ (.tail _ (.tail _ (.tail _ (.tail _ (.head _)))))))) hvs (by rw [units_deeper, units_caller, cLine_is]; decide) (by simp only [depth_deeper, depth_caller]; decide) rfl hpl (fun y s1 K1 hy => ?_)
  obtain ⟨h19, g19, tk19, p, q, r, rfl, F19, N19, trip, bare, htk19⟩ := afterT 7 K1 F18 N18 hn0 trip rfl rfl
  obtain ⟨dy, ly, uy, cy, tky, ny, hsy, huy, N20⟩ := newsPtr (frHid F18 hn0 hL) N19 hy
  clear K1 F18 N18 N19 hy
  dsimp only [List.take, List.cons_append, List.nil_append] at N20
  dsimp only
  walk_at "m go"
  rename Fr h₀ L _ _ => F21
  rename News h₀ L _ _ => N21
  refine getPath (cgAt 10 C0 F21 N21 trip bare (by assumption) rfl) (ptrNews N21 huy (.head _) (.tail _ (.head _)) (.tail _ (.tail _ (.head _)))) (by simp only [depth_deeper, depth_caller]; decide) rfl hpl (fun t1 s1 K1 => ?_)
  obtain ⟨h22, g22, tk22, p, q, r, rfl, F22, N22, trip, bare, htk22⟩ := afterT 10 K1 F21 N21 hn0 trip rfl rfl
  clear K1 F21 N21
  dsimp only [List.take, List.cons_append, List.nil_append] at N22
  rw [pathOf_toksOf tt hv]
  walk_at "m go"
  rw [show (S tt != S tt) = false from by simp]
  walk_at "m go"
  refine ⟨rfl, tt, t, _, _, _, ⟨F22, ⟨p, q, r, trip, fun z hz => ?_⟩, bare, by assumption, eos, edr⟩⟩
  · exact (show News h₀ L h22 ([_, _, _, _, _, _, _, _, _, _] ++ tab3 p q r) from N22) z (List.mem_append_right _ hz)
end
end Mine

end
section
open PySem PySem.W PySem.Calls PyProof.Rows
open PySem.Builtin PySem.Builtin.Str
set_option Elab.async false
set_option maxRecDepth 100000
set_option maxHeartbeats 400000
namespace Mine
theorem fill_it23 (P : (OpenLaw → (Params → Frag) → Prop)) (h : P PySem.Challenge.rw_jh0011_01 hd.heap_39) : P PySem.Challenge.rw_jh0011_01 hd.heap_39 := by
  k_fill
  exact h
local macro_rules | `(tactic| walk_at "m go") => `(tactic| repeat (first | ((with_reducible show wpAny _ _ _ _ _ _); (fail_if_success (with_reducible show wpAny _ _ (PySem.exec (Stmt.For _ _ _ _ _) _) _ _ _)); (fail_if_success (with_reducible show wpAny _ _ (PySem.subscriptTail _ _ (Value.ref _) (Value.ref _)) _ _ _)); (fail_if_success (with_reducible show wpAny _ _ (PySem.eval (Expr.ListComp _ _ _ _) _) _ _ _)); (fail_if_success (with_reducible show wpAny _ _ (PySem.call (Value.builtin "str.join") _ _) _ _ _)); (fail_if_success (with_reducible show wpAny _ _ (PySem.call (Value.ref _) _ _) _ _ _)); (fail_if_success (with_reducible show wpAny _ _ (PySem.compareOp _ (Value.ref _) (Value.ref _)) _ _ _)); (fail_if_success (with_reducible show wpAny _ _ (PySem.call (Value.type _) _ _) _ _ _)); (fail_if_success (with_reducible show wpAny _ _ (PySem.binaryOp _ (Value.ref _) (Value.ref _)) _ _ _)); (fail_if_success (with_reducible show wpAny _ _ (PySem.exec (Stmt.Try _ _ _ _ _) _) _ _ _)); (fail_if_success (with_reducible show wpAny _ _ (PySem.getAttr (Value.ref _) _ _) _ _ _)); (fail_if_success (with_reducible show wpAny _ _ (PySem.eval (Expr.GeneratorExp _ _ _ _) _) _ _ _)); (fail_if_success (with_reducible show wpAny _ _ (PySem.exec (Stmt.Assign _ (Expr.ListComp _ _ _ _) _) _) _ _ _)); walk1; (try dsimp only)) | (with_reducible refine And.intro (Frag.In.keeps (by assumption) (Fr.keep (by assumption))) ?_) | (with_reducible refine split_not ?_) | (with_reducible refine ite_tt ?_) | (with_reducible refine ite_ff ?_)))
local macro_rules | `(tactic| walk_at "execs cons") => `(tactic| (refine execs_consG ?hp ?_; (case hp => first | assumption | exact Nat.succ_pos _ | exact Nat.lt_of_lt_of_le (by assumption) (Nat.le_add_right _ _) | omega); intro tk' htk'))
local macro_rules | `(tactic| walk_at "execs nil") => `(tactic| refine wpAny_execs_nil ?_)
def rowN (ns : List Int) : List (List Nat) := (ns.take 6).map fun (n : Int) => names.getD (n.fmod 10).toNat []
def otherN (ns : List Int) : List (List Nat) := (ns.take 6).map fun (n : Int) => names.getD ((n.fdiv 10).fmod 10).toNat []
/-- few short texts -/
def Small (ls : List (List Nat)) : Prop := ls.length ≤ 6 ∧ ∀ l ∈ ls, l.length ≤ 2 ∧ A7 l
theorem names_ok (i : Nat) : (names.getD i []).length ≤ 2 ∧ A7 (names.getD i []) := by
  by_cases h : i < 10
  · have : ∀ i < 10, (names.getD i []).length ≤ 2 ∧ ∀ c ∈ names.getD i [], c < 128 := by decide +kernel
    exact this i h
  · rw [List.getD_eq_getElem?_getD, List.getElem?_eq_none (by show 10 ≤ i; omega)]
    exact ⟨by simp, fun c hc => by simp at hc⟩
theorem small_row (ns : List Int) : Small (rowN ns) := by
  refine ⟨by unfold rowN; rw [List.length_map, List.length_take]; omega, fun l hl => ?_⟩
  obtain ⟨n, _, rfl⟩ := List.mem_map.mp hl
  exact names_ok _
theorem small_other (ns : List Int) : Small (otherN ns) := by
  refine ⟨by unfold otherN; rw [List.length_map, List.length_take]; omega, fun l hl => ?_⟩
  obtain ⟨n, _, rfl⟩ := List.mem_map.mp hl
  exact names_ok _
theorem same_len (ns : List Int) : (otherN ns).length = (rowN ns).length := by unfold rowN otherN; rw [List.length_map, List.length_map]
theorem Small.take {ls : List (List Nat)} (h : Small ls) (k : Nat) : Small (ls.take k) := ⟨Nat.le_trans (by rw [List.length_take]; omega) h.1, fun l hl => h.2 l (List.mem_of_mem_take hl)⟩
theorem Small.a7 {ls : List (List Nat)} (h : Small ls) : A7L ls := fun l hl => (h.2 l hl).2
theorem path_len : ∀ {ls : List (List Nat)}, (∀ l ∈ ls, l.length ≤ 2) → (pathOf ls).length ≤ 5 * ls.length
  | [], _ => Nat.le_refl _
  | l :: r, h => by
    have h1 := h l (.head _)
    have h2 := path_len fun x hx => h x (.tail _ hx)
    have h3 := esc_length l
    rw [pathOf_cons, List.length_cons, List.length_append, List.length_cons]; omega
theorem Small.len {ls : List (List Nat)} (h : Small ls) : (pathOf ls).length ≤ 30 := Nat.le_trans (path_len fun l hl => (h.2 l hl).1) (by have := h.1; omega)
theorem Small.len2 {ls ms : List (List Nat)} (h : Small ls) (h' : Small ms) : (pathOf (ls ++ ms)).length ≤ 60 := by
  rw [pathOf_append, List.length_append]
  have := h.len
  have := h'.len
  omega
abbrev mR (m : Str → Option Value) (D1 D2 : Addr) : Str → Option Value := fun z => if z = Str.ofString "other" then some (.ref D2) else if z = Str.ofString "row" then some (.ref D1) else m z
def postB1 (h₀ : Heap) (L : Addr) (m : Str → Option Value) (ns : List Int) (s₀ s' : Shared) : Prop := ∃ D1 D2 rs os c1 c2, LS rs (rowN ns) ∧ LS os (otherN ns) ∧ Mid h₀ L (mR m D1 D2) [(D2, W.listOf (List.toArray os) c2), (D1, W.listOf (List.toArray rs) c1)] s₀ s'
section
variable {w : World} {s s₀ : Shared} {loose : List Str} {mg mb : Str → Option Value} {h₀ : Heap} {L a : Addr} {vs : List Value} {ns : List Int} {m : Str → Option Value}
  {oc : Value} {od : Option Addr} {osl : Array (Option Value)} {params : Arguments} {body : List Stmt} {scope : Scope} {dV kV doc pm ct : Value} {an : Option Addr}
theorem phaseB1 (ho : (hd.heap_39 w.params).lookup 272 = some ⟨oc, od, .func (fnOf (Str.ofString "law") (Str.ofString "law") params body scope dV kV doc pm an (.ref 271) ct), osl⟩)
    (C0 : Cx w loose mg mb h₀) (I : h₀.IsList a vs.toArray) (hi : IntsAre vs ns) (hz' : vs.length ≤ 100000) (hm : m (Str.ofString "script") = some (.ref a)) (M : Mid h₀ L m [] s₀ s) :
    wpAny (model prog w) (callerA.deeper (envOf (Str.ofString "law") scope L 272 (.ref 271))) (execs ((body.drop 5).take 2) (envOf (Str.ofString "law") scope L 272 (.ref 271)))
      (fun f s' => f = .next ∧ postB1 h₀ L m ns s₀ s') (fun _ _ => False) s := by
  refine' lit2 (P := fun body scope => wpAny (model prog w) (callerA.deeper (envOf (Str.ofString "law") scope L 272 (.ref 271))) (execs ((body.drop 5).take 2) (envOf (Str.ofString "law") scope L 272 (.ref 271)))
      (fun f s' => f = .next ∧ postB1 h₀ L m ns s₀ s') (fun _ _ => False) s) ho ?h1 ?_
  case h1 => k_is
  clear ho
  obtain ⟨hh₀, g, d, tk, os⟩ := s
  obtain ⟨F, ⟨p, q, r, trip, N⟩, bare, htk, eos, edr⟩ := M
  have hL := notL N
  have X := C0.X
  have T := C0.T
  dsimp only [List.take, List.drop, List.nil_append] at F N htk bare eos edr ⊢
  walk_at "m go"
  refine wpAny_with_toks (n := 1) (by assumption) ?_
  refine compI (h₀ := h₀) (f := fun n => names.getD (n.fmod 10).toNat []) (by with_unfolding_all rfl) (by decide) (by decide) rfl (by decide) rfl rfl rfl rfl ?_ (fun _ => rfl)
  walk_at "m go"
  refine nameL F.ns hm ?_ rfl rfl (by decide)
  walk_at "m go"
  refine' takeL (k := 6) F N (I.at fun o e => F.keep _ _ e) hz' ?tk ?ths ?tht
  case ths => with_unfolding_all rfl
  case tht => intro _; with_unfolding_all rfl
  intro D1 h1 F1 N1 _
  have hint := intsTake 6 hi
  have X1 := X.keeps F1.keep
  have T1 := T.keeps F1.keep
  refine ⟨D1, vs.take 6, ns.take 6, _, _, rfl, PySem.IsL.isList (N1 _ (.head _)).1, hint, by rw [List.length_take, sizeLine_eq]; omega, F1, N1, ?_, ?_⟩
  · intro C n t s₃ m₃ E' hn hns hm3 hk _
    obtain ⟨th, tg, td, ttk, tos⟩ := s₃
    dsimp only at hns hk ⊢
    have X3 := X1.keeps hk
    have T3 := T1.keeps hk
    refine Subscript_ ?_
    refine' nameG X3 T3 ?n1 ?_ ?n2 ?n3 ?n4 ?n5
    case n1 => k_is
    case n2 => exact rfl
    case n3 => exact rfl
    case n4 => exact rfl
    case n5 => decide
    refine wpAny_BinOp ?_
    refine nameL hns hm3 ?_ rfl rfl (by decide)
    refine wpAny_Constant_int ?_
    refine mod_int (by decide) ?_
    obtain ⟨us, cu, hlk, hus⟩ := names_in w
    have h0 : 0 ≤ n.fmod 10 := Int.fmod_nonneg_of_pos _ (by decide)
    have h12 : n.fmod 10 < 10 := Int.fmod_lt_of_pos _ (by decide)
    have hlt : (n.fmod 10).toNat < names.length := by show (n.fmod 10).toNat < 10; omega
    obtain ⟨tv, hv⟩ := hus.get (List.getElem?_eq_getElem hlt)
    refine Mine.getL (PySem.IsL.isList (X3 _ _ hlk)) h0 (by omega) hv ?_
    refine ⟨⟨tv, ?_⟩, ⟨_, _, rfl, fun _ _ e => e⟩⟩
    rw [List.getD_eq_getElem?_getD, List.getElem?_eq_getElem hlt]; rfl
  intro D2 h2 tk2 rs c2 F2 N2 hrs hD2 hk2 htk2
  clear X1 T1 F1 N1 F N hk2 hD2
  walk_at "m go"
  refine wpAny_with_toks (n := 1) (by assumption) ?_
  refine compI (h₀ := h₀) (f := fun n => names.getD ((n.fdiv 10).fmod 10).toNat []) (by with_unfolding_all rfl) (by decide) (by decide) rfl (by decide) rfl rfl rfl rfl ?_ (fun _ => rfl)
  walk_at "m go"
  have hm2 : (fun z => if z = Str.ofString "row" then some (Value.ref D2) else m z) (Str.ofString "script") = some (.ref a) := (if_neg (by decide)).trans hm
  refine nameL F2.ns hm2 ?_ rfl rfl (by decide)
  walk_at "m go"
  refine' takeL (k := 6) F2 N2 (I.at fun o e => F2.keep _ _ e) hz' ?tkb ?thsb ?thtb
  case thsb => with_unfolding_all rfl
  case thtb => intro _; with_unfolding_all rfl
  intro D3 h3 F3 N3 _
  have X1 := X.keeps F3.keep
  have T1 := T.keeps F3.keep
  refine ⟨D3, vs.take 6, ns.take 6, _, _, rfl, PySem.IsL.isList (N3 _ (.head _)).1, hint, by rw [List.length_take, sizeLine_eq]; omega, F3, N3, ?_, ?_⟩
  · intro C n t s₃ m₃ E' hn hns hm3 hk _
    obtain ⟨th, tg, td, ttk, tos⟩ := s₃
    dsimp only at hns hk ⊢
    have X3 := X1.keeps hk
    have T3 := T1.keeps hk
    refine Subscript_ ?_
    refine' nameG X3 T3 ?o1 ?_ ?o2 ?o3 ?o4 ?o5
    case o1 => k_is
    case o2 => exact rfl
    case o3 => exact rfl
    case o4 => exact rfl
    case o5 => decide
    refine wpAny_BinOp ?_
    refine wpAny_BinOp ?_
    refine nameL hns hm3 ?_ rfl rfl (by decide)
    refine wpAny_Constant_int ?_
    refine floordiv_int (by decide) ?_
    refine wpAny_Constant_int ?_
    refine mod_int (by decide) ?_
    obtain ⟨us, cu, hlk, hus⟩ := names_in w
    have h0 : 0 ≤ (n.fdiv 10).fmod 10 := Int.fmod_nonneg_of_pos _ (by decide)
    have h12 : (n.fdiv 10).fmod 10 < 10 := Int.fmod_lt_of_pos _ (by decide)
    have hlt : ((n.fdiv 10).fmod 10).toNat < names.length := by show ((n.fdiv 10).fmod 10).toNat < 10; omega
    obtain ⟨tv, hv⟩ := hus.get (List.getElem?_eq_getElem hlt)
    refine Mine.getL (PySem.IsL.isList (X3 _ _ hlk)) h0 (by omega) hv ?_
    refine ⟨⟨tv, ?_⟩, ⟨_, _, rfl, fun _ _ e => e⟩⟩
    rw [List.getD_eq_getElem?_getD, List.getElem?_eq_getElem hlt]; rfl
  intro D4 h4 tk4 os4 c4 F4 N4 hos hD4 hk4 htk4
  clear X1 T1 F3 N3 F2 N2 hk4 hD4
  walk_at "m go"
  refine ⟨rfl, D2, D4, rs, os4, c2, c4, hrs, hos, ⟨F4, ⟨p, q, r, trip, fun z hz => ?_⟩, bare, htk4, eos, edr⟩⟩
  · exact N4 z (by
      rcases List.mem_cons.mp hz with rfl | hz
      · exact .head _
      rcases List.mem_cons.mp hz with rfl | hz
      · exact .tail _ (.tail _ (.head _))
      · exact .tail _ (.tail _ (.tail _ (.tail _ hz))))
end
end Mine

end
section
open PySem PySem.W PySem.Calls PyProof.Rows
open PySem.Builtin PySem.Builtin.Str
set_option Elab.async false
set_option maxRecDepth 100000
set_option maxHeartbeats 400000
namespace Mine
theorem fill_it24 (P : (OpenLaw → (Params → Frag) → Prop)) (h : P PySem.Challenge.rw_jh0011_01 hd.heap_39) : P PySem.Challenge.rw_jh0011_01 hd.heap_39 := by
  k_fill
  exact h
local macro_rules | `(tactic| walk_at "m go") => `(tactic| repeat (first | ((with_reducible show wpAny _ _ _ _ _ _); (fail_if_success (with_reducible show wpAny _ _ (PySem.exec (Stmt.For _ _ _ _ _) _) _ _ _)); (fail_if_success (with_reducible show wpAny _ _ (PySem.subscriptTail _ _ (Value.ref _) (Value.ref _)) _ _ _)); (fail_if_success (with_reducible show wpAny _ _ (PySem.eval (Expr.ListComp _ _ _ _) _) _ _ _)); (fail_if_success (with_reducible show wpAny _ _ (PySem.call (Value.builtin "str.join") _ _) _ _ _)); (fail_if_success (with_reducible show wpAny _ _ (PySem.call (Value.ref _) _ _) _ _ _)); (fail_if_success (with_reducible show wpAny _ _ (PySem.compareOp _ (Value.ref _) (Value.ref _)) _ _ _)); (fail_if_success (with_reducible show wpAny _ _ (PySem.call (Value.type _) _ _) _ _ _)); (fail_if_success (with_reducible show wpAny _ _ (PySem.binaryOp _ (Value.ref _) (Value.ref _)) _ _ _)); (fail_if_success (with_reducible show wpAny _ _ (PySem.exec (Stmt.Try _ _ _ _ _) _) _ _ _)); (fail_if_success (with_reducible show wpAny _ _ (PySem.getAttr (Value.ref _) _ _) _ _ _)); (fail_if_success (with_reducible show wpAny _ _ (PySem.eval (Expr.GeneratorExp _ _ _ _) _) _ _ _)); (fail_if_success (with_reducible show wpAny _ _ (PySem.exec (Stmt.Assign _ (Expr.ListComp _ _ _ _) _) _) _ _ _)); walk1; (try dsimp only)) | (with_reducible refine And.intro (Frag.In.keeps (by assumption) (Fr.keep (by assumption))) ?_) | (with_reducible refine split_not ?_) | (with_reducible refine ite_tt ?_) | (with_reducible refine ite_ff ?_)))
local macro_rules | `(tactic| walk_at "execs cons") => `(tactic| (refine execs_consG ?hp ?_; (case hp => first | assumption | exact Nat.succ_pos _ | exact Nat.lt_of_lt_of_le (by assumption) (Nat.le_add_right _ _) | omega); intro tk' htk'))
local macro_rules | `(tactic| walk_at "execs nil") => `(tactic| refine wpAny_execs_nil ?_)
theorem newsSub {h₀ h : Heap} {L : Addr} {big small : List (Addr × Obj)} (N : News h₀ L h big) (hs : List.Sublist small big) : News h₀ L h small := fun z hz => N z (hs.subset hz)
def postB2 (h₀ : Heap) (L : Addr) (m : Str → Option Value) (D1 D2 : Addr) (o1 o2 : Obj) (ns : List Int) (s₀ s' : Shared) : Prop := ∃ x dx lx us cu tku n hs, LS us (rowN ns) ∧
  Mid h₀ L (fun z => if z = Str.ofString "one" then some (.ref x) else m z) [(x, instObj 205 dx), (dx, dictOf [⟨hs, .str (Str.ofString "parts") tku, .ref lx⟩] n), (lx, W.listOf (List.toArray us) cu), (D2, o2), (D1, o1)] s₀ s'
section
variable {w : World} {s s₀ : Shared} {loose : List Str} {mg mb : Str → Option Value} {h₀ : Heap} {L a : Addr} {vs rs os : List Value} {ns : List Int} {D1 D2 : Addr} {c1 c2 : Nat} {tt : List Nat} {t : Tok} {v1 v2 v3 : Value}
  {oc : Value} {od : Option Addr} {osl : Array (Option Value)} {params : Arguments} {body : List Stmt} {scope : Scope} {dV kV doc pm ct : Value} {an : Option Addr}
theorem phaseB2 (ho : (hd.heap_39 w.params).lookup 272 = some ⟨oc, od, .func (fnOf (Str.ofString "law") (Str.ofString "law") params body scope dV kV doc pm an (.ref 271) ct), osl⟩)
    (C0 : Cx w loose mg mb h₀) (hn0 : ∀ b ∈ tabs, h₀.get? b = none) (hrs : LS rs (rowN ns)) (hos : LS os (otherN ns)) (M : Mid h₀ L (mR (mP a tt t v1 v2 v3) D1 D2) [(D2, W.listOf (List.toArray os) c2), (D1, W.listOf (List.toArray rs) c1)] s₀ s) :
    wpAny (model prog w) (callerA.deeper (envOf (Str.ofString "law") scope L 272 (.ref 271))) (execs ((body.drop 7).take 2) (envOf (Str.ofString "law") scope L 272 (.ref 271)))
      (fun f s' => f = .next ∧ postB2 h₀ L (mR (mP a tt t v1 v2 v3) D1 D2) D1 D2 (W.listOf (List.toArray rs) c1) (W.listOf (List.toArray os) c2) ns s₀ s') (fun _ _ => False) s := by
  refine' lit2 (P := fun body scope => wpAny (model prog w) (callerA.deeper (envOf (Str.ofString "law") scope L 272 (.ref 271))) (execs ((body.drop 7).take 2) (envOf (Str.ofString "law") scope L 272 (.ref 271)))
      (fun f s' => f = .next ∧ postB2 h₀ L (mR (mP a tt t v1 v2 v3) D1 D2) D1 D2 (W.listOf (List.toArray rs) c1) (W.listOf (List.toArray os) c2) ns s₀ s') (fun _ _ => False) s) ho ?h1 ?_
  case h1 => k_is
  clear ho
  obtain ⟨hh₀, g, d, tk, oss⟩ := s
  obtain ⟨F, ⟨p, q, r, trip, N⟩, bare, htk, eos, edr⟩ := M
  have hL := notL N
  have X := C0.X
  have T := C0.T
  have sr := small_row ns
  generalize hrw : rowN ns = rw at *
  have hpl : (pathOf rw).length ≤ 100000 := Nat.le_trans sr.len (by decide)
  dsimp only [List.take, List.drop, List.nil_append, List.cons_append, mR, mP, mA] at F N htk bare eos edr ⊢
  walk_at "m go"
  walk1
  dsimp only
  walk_at "m go"
  rename Fr h₀ L _ _ => F18
  rename News h₀ L _ _ => N18
  refine ⟨methP N18 (.head _) (X.keeps F18.keep), ?_⟩
  refine call_meth N18 (.head _) ?_
  refine from_code (cgAt 3 C0 F18 N18 trip bare (Nat.succ_pos _) rfl) (N18.isList (.tail _ (.tail _ (.head _)))) hrs (by rw [units_deeper, units_caller, cLine_is]; decide) (by simp only [depth_deeper, depth_caller]; decide) rfl hpl (fun y s1 K1 hy => ?_)
  obtain ⟨h19, g19, tk19, p, q, r, rfl, F19, N19, trip, bare, htk19⟩ := afterT 3 K1 F18 N18 hn0 trip rfl rfl
  obtain ⟨dy, ly, uy, cy, tky, ny, hsy, huy, N20⟩ := newsPtr (frHid F18 hn0 hL) N19 hy
  clear K1 F18 N18 N19 hy
  dsimp only [List.take, List.cons_append, List.nil_append] at N20
  dsimp only
  walk_at "m go"
  rename Fr h₀ L _ _ => F21
  rename News h₀ L _ _ => N21
  refine getPath (cgAt 6 C0 F21 N21 trip bare (by assumption) rfl) (ptrNews N21 huy (.head _) (.tail _ (.head _)) (.tail _ (.tail _ (.head _)))) (by simp only [depth_deeper, depth_caller]; decide) rfl hpl (fun t1 s1 K1 => ?_)
  obtain ⟨h22, g22, tk22, p, q, r, rfl, F22, N22, trip, bare, htk22⟩ := afterT 6 K1 F21 N21 hn0 trip rfl rfl
  clear K1 F21 N21
  dsimp only [List.take, List.cons_append, List.nil_append] at N22
  walk_at "m go"
  refine' useK ?sp1 ?d1 ?_
  case sp1 => exact text_spec (X.keeps F22.keep) (T.keeps F22.keep) (by simp only [depth_deeper, depth_caller]; decide) rfl (N22.isList (.tail _ (.tail _ (.tail _ (.tail _ (.tail _ (.head _))))))) hrs hpl
  case d1 => assumption
  intro vt1 ht1 tkt1 hvt1 hkt1 htkt1
  obtain ⟨tt1, rfl⟩ := hvt1
  have Ft1 := frK F22 hkt1
  have Nt1 := newsK N22 hkt1
  clear F22 N22 hkt1
  dsimp only at Ft1 Nt1 ⊢
  walk_at "m go"
  rw [show (S (pathOf rw) != S (pathOf rw)) = false from by simp]
  walk_at "m go"
  rename Fr h₀ L _ _ => F23
  rename News h₀ L _ _ => N23
  refine join_code (cgAt 6 C0 F23 N23 trip bare (by assumption) rfl) (N23.isList (.tail _ (.tail _ (.tail _ (.tail _ (.tail _ (.head _))))))) hrs.items (by simp only [depth_deeper, depth_caller]; decide) rfl hpl (fun t2 s2 K2 => ?_)
  obtain ⟨h24, g24, tk24, p, q, r, rfl, F24, N24, trip, bare, htk24⟩ := afterT 6 K2 F23 N23 hn0 trip rfl rfl
  clear K2 F23 N23
  dsimp only [List.take, List.cons_append, List.nil_append] at N24
  walk_at "m go"
  refine' useK ?sp2 ?d2 ?_
  case sp2 => exact text_spec (X.keeps F24.keep) (T.keeps F24.keep) (by simp only [depth_deeper, depth_caller]; decide) rfl (N24.isList (.tail _ (.tail _ (.tail _ (.tail _ (.tail _ (.head _))))))) hrs hpl
  case d2 => assumption
  intro vt2 ht2 tkt2 hvt2 hkt2 htkt2
  obtain ⟨tt2, rfl⟩ := hvt2
  have Ft2 := frK F24 hkt2
  have Nt2 := newsK N24 hkt2
  clear F24 N24 hkt2
  dsimp only at Ft2 Nt2 ⊢
  walk_at "m go"
  rw [show (S (pathOf rw) != S (pathOf rw)) = false from by simp]
  walk_at "m go"
  rename Fr h₀ L _ _ => F25
  rename News h₀ L _ _ => N25
  refine' useK ?sp3 ?d3 ?_
  case sp3 => exact text_spec (X.keeps F25.keep) (T.keeps F25.keep) (by simp only [depth_deeper, depth_caller]; decide) rfl (N25.isList (.tail _ (.tail _ (.tail _ (.tail _ (.tail _ (.head _))))))) hrs hpl
  case d3 => assumption
  intro vt3 ht3 tkt3 hvt3 hkt3 htkt3
  obtain ⟨tt3, rfl⟩ := hvt3
  have Ft3 := frK F25 hkt3
  have Nt3 := newsK N25 hkt3
  clear F25 N25 hkt3
  dsimp only at Ft3 Nt3 ⊢
  walk_at "m go"
  rename Fr h₀ L _ _ => F26
  rename News h₀ L _ _ => N26
  refine' useK ?sp ?d3 ?_
  case sp => exact ptr_spec (X.keeps F26.keep) (T.keeps F26.keep) (by simp only [depth_deeper, depth_caller]; decide) (by rw [units_deeper, units_caller, cLine_is]; decide) rfl (by assumption) hpl (valid_pathOf rw)
  case d3 => assumption
  intro v h8 tk9 hv8 hk8 htk9
  obtain ⟨x, rfl, hx⟩ := hv8
  rw [toksOf_pathOf] at hx
  have F8 := frK F26 hk8
  have N8 := newsK N26 hk8
  obtain ⟨dx, l1, us, cu, tku, n, hs, hus, N9⟩ := newsPtr F26 N8 hx
  clear N8 N26 hx F26 hk8
  dsimp only [List.cons_append, List.nil_append] at F8 N9 ⊢
  walk1
  walk_at "m go"
  rename Fr h₀ L _ _ => F27
  rename News h₀ L _ _ => N27
  refine neLists (N27.isList (.tail _ (.tail _ (.head _)))) (N27.isList (.tail _ (.tail _ (.tail _ (.tail _ (.tail _ (.tail _ (.tail _ (.tail _ (.head _)))))))))) hus hrs sr.a7 sr.a7 (by rw [units_deeper, units_caller, cLine_is]; decide) ?_
  rw [show (!decide (rw = rw)) = false from by simp]
  walk_at "m go"
  exact ⟨rfl, y, dy, ly, uy, cy, tky, ny, hsy, by rw [hrw]; exact huy, ⟨F27, ⟨p, q, r, trip, newsSub N27 (.cons _ (.cons _ (.cons _ (.cons₂ _ (.cons₂ _ (.cons₂ _ (.cons _ (.cons₂ _ (.cons₂ _ (.refl _))))))))))⟩, bare, Nat.succ_pos _, eos, edr⟩⟩
end
end Mine

end
section
open PySem PySem.W PySem.Calls PyProof.Rows
open PySem.Builtin PySem.Builtin.Str
set_option Elab.async false
set_option maxRecDepth 100000
set_option maxHeartbeats 400000
namespace Mine
theorem fill_it25 (P : (OpenLaw → (Params → Frag) → Prop)) (h : P PySem.Challenge.rw_jh0011_01 hd.heap_39) : P PySem.Challenge.rw_jh0011_01 hd.heap_39 := by
  k_fill
  exact h
local macro_rules | `(tactic| walk_at "m go") => `(tactic| repeat (first | ((with_reducible show wpAny _ _ _ _ _ _); (fail_if_success (with_reducible show wpAny _ _ (PySem.exec (Stmt.For _ _ _ _ _) _) _ _ _)); (fail_if_success (with_reducible show wpAny _ _ (PySem.truthy (Value.ref _)) _ _ _)); (fail_if_success (with_reducible show wpAny _ _ (PySem.subscriptTail _ _ (Value.ref _) _) _ _ _)); (fail_if_success (with_reducible show wpAny _ _ (PySem.eval (Expr.ListComp _ _ _ _) _) _ _ _)); (fail_if_success (with_reducible show wpAny _ _ (PySem.call (Value.builtin "str.join") _ _) _ _ _)); (fail_if_success (with_reducible show wpAny _ _ (PySem.call (Value.ref _) _ _) _ _ _)); (fail_if_success (with_reducible show wpAny _ _ (PySem.compareOp _ (Value.ref _) (Value.ref _)) _ _ _)); (fail_if_success (with_reducible show wpAny _ _ (PySem.call (Value.type _) _ _) _ _ _)); (fail_if_success (with_reducible show wpAny _ _ (PySem.binaryOp _ (Value.ref _) (Value.ref _)) _ _ _)); (fail_if_success (with_reducible show wpAny _ _ (PySem.exec (Stmt.Try _ _ _ _ _) _) _ _ _)); (fail_if_success (with_reducible show wpAny _ _ (PySem.getAttr (Value.ref _) _ _) _ _ _)); (fail_if_success (with_reducible show wpAny _ _ (PySem.eval (Expr.GeneratorExp _ _ _ _) _) _ _ _)); (fail_if_success (with_reducible show wpAny _ _ (PySem.exec (Stmt.Assign _ (Expr.ListComp _ _ _ _) _) _) _ _ _)); walk1; (try dsimp only)) | (with_reducible refine And.intro (Frag.In.keeps (by assumption) (Fr.keep (by assumption))) ?_) | (with_reducible refine split_not ?_) | (with_reducible refine ite_tt ?_) | (with_reducible refine ite_ff ?_)))
local macro_rules | `(tactic| walk_at "execs cons") => `(tactic| (refine execs_consG ?hp ?_; (case hp => first | assumption | exact Nat.succ_pos _ | exact Nat.lt_of_lt_of_le (by assumption) (Nat.le_add_right _ _) | omega); intro tk' htk'))
local macro_rules | `(tactic| walk_at "execs nil") => `(tactic| refine wpAny_execs_nil ?_)
section
variable {w : World} {s s₀ : Shared} {loose : List Str} {mg mb : Str → Option Value} {h₀ : Heap} {L a x dx lx : Addr} {vs rs os us : List Value} {ns : List Int} {D1 D2 : Addr} {c1 c2 cu n : Nat} {hs : Int} {tku : Tok} {tt : List Nat} {t : Tok} {v1 v2 v3 : Value}
  {oc : Value} {od : Option Addr} {osl : Array (Option Value)} {params : Arguments} {body : List Stmt} {scope : Scope} {dV kV doc pm ct : Value} {an : Option Addr}
theorem phaseB3 (ho : (hd.heap_39 w.params).lookup 272 = some ⟨oc, od, .func (fnOf (Str.ofString "law") (Str.ofString "law") params body scope dV kV doc pm an (.ref 271) ct), osl⟩)
    (C0 : Cx w loose mg mb h₀) (hn0 : ∀ b ∈ tabs, h₀.get? b = none) (I : h₀.IsList a vs.toArray) (hi : IntsAre vs ns) (hz' : vs.length ≤ 100000) (hrs : LS rs (rowN ns)) (M : Mid h₀ L (fun z => if z = Str.ofString "one" then some (.ref x) else mR (mP a tt t v1 v2 v3) D1 D2 z) [(x, instObj 205 dx), (dx, dictOf [⟨hs, .str (Str.ofString "parts") tku, .ref lx⟩] n), (lx, W.listOf (List.toArray us) cu), (D2, W.listOf (List.toArray os) c2), (D1, W.listOf (List.toArray rs) c1)] s₀ s) :
    wpAny (model prog w) (callerA.deeper (envOf (Str.ofString "law") scope L 272 (.ref 271))) (execs ((body.drop 9).take 1) (envOf (Str.ofString "law") scope L 272 (.ref 271)))
      (fun f s' => f = .next ∧ ∃ (nv : Int) (tv : Tok), (-1000 < nv ∧ nv < 1000) ∧ Mid h₀ L (fun z => if z = Str.ofString "number" then some (.int nv tv) else if z = Str.ofString "one" then some (.ref x) else mR (mP a tt t v1 v2 v3) D1 D2 z) [(x, instObj 205 dx), (dx, dictOf [⟨hs, .str (Str.ofString "parts") tku, .ref lx⟩] n), (lx, W.listOf (List.toArray us) cu), (D2, W.listOf (List.toArray os) c2), (D1, W.listOf (List.toArray rs) c1)] s₀ s') (fun _ _ => False) s := by
  refine' lit2 (P := fun body scope => wpAny (model prog w) (callerA.deeper (envOf (Str.ofString "law") scope L 272 (.ref 271))) (execs ((body.drop 9).take 1) (envOf (Str.ofString "law") scope L 272 (.ref 271)))
      (fun f s' => f = .next ∧ ∃ (nv : Int) (tv : Tok), (-1000 < nv ∧ nv < 1000) ∧ Mid h₀ L (fun z => if z = Str.ofString "number" then some (.int nv tv) else if z = Str.ofString "one" then some (.ref x) else mR (mP a tt t v1 v2 v3) D1 D2 z) [(x, instObj 205 dx), (dx, dictOf [⟨hs, .str (Str.ofString "parts") tku, .ref lx⟩] n), (lx, W.listOf (List.toArray us) cu), (D2, W.listOf (List.toArray os) c2), (D1, W.listOf (List.toArray rs) c1)] s₀ s') (fun _ _ => False) s) ho ?h1 ?_
  case h1 => k_is
  clear ho
  obtain ⟨hh₀, g, d, tk, oss⟩ := s
  obtain ⟨F, ⟨p, q, r, trip, N⟩, bare, htk, eos, edr⟩ := M
  have hL := notL N
  have X := C0.X
  have T := C0.T
  have sr := small_row ns
  generalize hrw : rowN ns = rw at *
  have hpl : (pathOf rw).length ≤ 100000 := Nat.le_trans sr.len (by decide)
  dsimp only [List.take, List.drop, List.nil_append, List.cons_append, mR, mP, mA] at F N htk bare eos edr ⊢
  walk_at "m go"
  refine wpAny_truthy_list (I.at fun o e => F.keep _ _ e) (by rw [List.size_toArray]; omega) ?_
  cases hi with
  | nil =>
    dsimp only
    rw [show (!(#[] : Array Value).isEmpty) = false from rfl]
    walk_at "m go"
    rename Fr h₀ L _ _ => F2
    rename News h₀ L _ _ => N2
    exact ⟨rfl, _, _, ⟨by decide, by decide⟩, ⟨F2, ⟨p, q, r, trip, N2⟩, bare, Nat.succ_pos _, eos, edr⟩⟩
  | cons n0 t0 hr =>
    rename_i vr nr
    rw [show (!(Value.int n0 t0 :: vr).toArray.isEmpty) = true from by simp]
    dsimp only
    walk_at "m go"
    rename Fr h₀ L _ _ => F2
    rename News h₀ L _ _ => N2
    have b1 : ∀ z : Int, -1000 < z.fmod 1000 ∧ z.fmod 1000 < 1000 := fun z => by
      have h0 : 0 ≤ z.fmod 1000 := Int.fmod_nonneg_of_pos _ (by decide)
      have h1 : z.fmod 1000 < 1000 := Int.fmod_lt_of_pos _ (by decide)
      omega
    exact ⟨rfl, _, _, b1 _, ⟨F2, ⟨p, q, r, trip, N2⟩, bare, by exact Nat.succ_pos _, eos, edr⟩⟩
end
end Mine

end
section
open PySem PySem.W PySem.Calls PyProof.Rows
open PySem.Builtin PySem.Builtin.Str
set_option Elab.async false
set_option maxRecDepth 100000
set_option maxHeartbeats 400000
namespace Mine
theorem fill_it26 (P : (OpenLaw → (Params → Frag) → Prop)) (h : P PySem.Challenge.rw_jh0011_01 hd.heap_39) : P PySem.Challenge.rw_jh0011_01 hd.heap_39 := by
  k_fill
  exact h
local macro_rules | `(tactic| walk_at "m go") => `(tactic| repeat (first | ((with_reducible show wpAny _ _ _ _ _ _); (fail_if_success (with_reducible show wpAny _ _ (PySem.exec (Stmt.For _ _ _ _ _) _) _ _ _)); (fail_if_success (with_reducible show wpAny _ _ (PySem.truthy (Value.ref _)) _ _ _)); (fail_if_success (with_reducible show wpAny _ _ (PySem.subscriptTail _ _ (Value.ref _) _) _ _ _)); (fail_if_success (with_reducible show wpAny _ _ (PySem.eval (Expr.ListComp _ _ _ _) _) _ _ _)); (fail_if_success (with_reducible show wpAny _ _ (PySem.call (Value.builtin "str.join") _ _) _ _ _)); (fail_if_success (with_reducible show wpAny _ _ (PySem.call (Value.ref _) _ _) _ _ _)); (fail_if_success (with_reducible show wpAny _ _ (PySem.compareOp _ (Value.ref _) (Value.ref _)) _ _ _)); (fail_if_success (with_reducible show wpAny _ _ (PySem.call (Value.type _) _ _) _ _ _)); (fail_if_success (with_reducible show wpAny _ _ (PySem.binaryOp _ (Value.ref _) (Value.ref _)) _ _ _)); (fail_if_success (with_reducible show wpAny _ _ (PySem.exec (Stmt.Try _ _ _ _ _) _) _ _ _)); (fail_if_success (with_reducible show wpAny _ _ (PySem.getAttr (Value.ref _) _ _) _ _ _)); (fail_if_success (with_reducible show wpAny _ _ (PySem.eval (Expr.GeneratorExp _ _ _ _) _) _ _ _)); (fail_if_success (with_reducible show wpAny _ _ (PySem.exec (Stmt.Assign _ (Expr.ListComp _ _ _ _) _) _) _ _ _)); walk1; (try dsimp only)) | (with_reducible refine And.intro (Frag.In.keeps (by assumption) (Fr.keep (by assumption))) ?_) | (with_reducible refine split_not ?_) | (with_reducible refine ite_tt ?_) | (with_reducible refine ite_ff ?_)))
local macro_rules | `(tactic| walk_at "execs cons") => `(tactic| (refine execs_consG ?hp ?_; (case hp => first | assumption | exact Nat.succ_pos _ | exact Nat.lt_of_lt_of_le (by assumption) (Nat.le_add_right _ _) | omega); intro tk' htk'))
local macro_rules | `(tactic| walk_at "execs nil") => `(tactic| refine wpAny_execs_nil ?_)
section
variable {w : World} {s s₀ : Shared} {loose : List Str} {mg mb : Str → Option Value} {h₀ : Heap} {L a x dx lx : Addr} {rs os us : List Value} {ns : List Int} {D1 D2 : Addr} {c1 c2 cu n : Nat} {hs : Int} {tku : Tok} {tt : List Nat} {t : Tok} {v1 v2 v3 : Value} {nv : Int} {tv : Tok}
  {oc : Value} {od : Option Addr} {osl : Array (Option Value)} {params : Arguments} {body : List Stmt} {scope : Scope} {dV kV doc pm ct : Value} {an : Option Addr}
theorem dec_len (nv : Int) (h1 : -1000 < nv) (h2 : nv < 1000) : (Str.ofString (toString nv)).cps.toList.length ≤ 1001 := by
  have h := len_str_of_int nv
  have e : (Str.ofString (toString nv)).cps.toList.length = (Str.ofString (toString nv)).length := rfl
  omega
theorem phaseB4 (ho : (hd.heap_39 w.params).lookup 272 = some ⟨oc, od, .func (fnOf (Str.ofString "law") (Str.ofString "law") params body scope dV kV doc pm an (.ref 271) ct), osl⟩)
    (C0 : Cx w loose mg mb h₀) (hn0 : ∀ b ∈ tabs, h₀.get? b = none) (hnv : -1000 < nv ∧ nv < 1000) (hrs : LS rs (rowN ns)) (M : Mid h₀ L (fun z => if z = Str.ofString "number" then some (.int nv tv) else if z = Str.ofString "one" then some (.ref x) else mR (mP a tt t v1 v2 v3) D1 D2 z) [(x, instObj 205 dx), (dx, dictOf [⟨hs, .str (Str.ofString "parts") tku, .ref lx⟩] n), (lx, W.listOf (List.toArray us) cu), (D2, W.listOf (List.toArray os) c2), (D1, W.listOf (List.toArray rs) c1)] s₀ s) :
    wpAny (model prog w) (callerA.deeper (envOf (Str.ofString "law") scope L 272 (.ref 271))) (execs ((body.drop 10).take 1) (envOf (Str.ofString "law") scope L 272 (.ref 271)))
      (fun f s' => f = .next ∧ Mid h₀ L (fun z => if z = Str.ofString "number" then some (.int nv tv) else if z = Str.ofString "one" then some (.ref x) else mR (mP a tt t v1 v2 v3) D1 D2 z) [(x, instObj 205 dx), (dx, dictOf [⟨hs, .str (Str.ofString "parts") tku, .ref lx⟩] n), (lx, W.listOf (List.toArray us) cu), (D2, W.listOf (List.toArray os) c2), (D1, W.listOf (List.toArray rs) c1)] s₀ s') (fun _ _ => False) s := by
  refine' lit2 (P := fun body scope => wpAny (model prog w) (callerA.deeper (envOf (Str.ofString "law") scope L 272 (.ref 271))) (execs ((body.drop 10).take 1) (envOf (Str.ofString "law") scope L 272 (.ref 271)))
      (fun f s' => f = .next ∧ Mid h₀ L (fun z => if z = Str.ofString "number" then some (.int nv tv) else if z = Str.ofString "one" then some (.ref x) else mR (mP a tt t v1 v2 v3) D1 D2 z) [(x, instObj 205 dx), (dx, dictOf [⟨hs, .str (Str.ofString "parts") tku, .ref lx⟩] n), (lx, W.listOf (List.toArray us) cu), (D2, W.listOf (List.toArray os) c2), (D1, W.listOf (List.toArray rs) c1)] s₀ s') (fun _ _ => False) s) ho ?h1 ?_
  case h1 => k_is
  clear ho
  obtain ⟨hh₀, g, d, tk, oss⟩ := s
  obtain ⟨F, ⟨p, q, r, trip, N⟩, bare, htk, eos, edr⟩ := M
  have hL := notL N
  have X := C0.X
  have T := C0.T
  have sr := small_row ns
  generalize hrw : rowN ns = rw at *
  dsimp only [List.take, List.drop, List.nil_append, List.cons_append, mR, mP, mA] at F N htk bare eos edr ⊢
  walk_at "m go"
  have hq := dec_len nv hnv.1 hnv.2
  have hit : Item (.int nv tv) (Str.ofString (toString nv)).cps.toList := .inr ⟨nv, tv, rfl, by omega, by omega, rfl⟩
  generalize (Str.ofString (toString nv)).cps.toList = qq at *
  have hpl : (pathOf (rw ++ [qq])).length ≤ 100000 := by
    have h1 := sr.len
    have h2 := esc_length qq
    have e : pathOf [qq] = 47 :: (esc qq ++ []) := rfl
    rw [pathOf_append, List.length_append, e, List.length_cons, List.length_append, List.length_nil]
    omega
  have hrl := hrs.length
  have hr6 := sr.1
  rename Fr h₀ L _ _ => F2
  rename News h₀ L _ _ => N2
  refine add_lists (vs := rs) (ws := [.int nv tv]) F2 N2 (N2.isList (.tail _ (.tail _ (.tail _ (.tail _ (.tail _ (.head _))))))) (N2.isList (.head _)) (fun h3 F3 N3 => ?_) (by rw [hrl, sizeLine_eq]; simp; omega)
  dsimp only
  walk_at "m go"
  rename Fr h₀ L _ _ => F4
  rename News h₀ L _ _ => N4
  refine join_code (vs := rs ++ [.int nv tv]) (ps := rw ++ [qq]) (cgAt 7 C0 F4 N4 trip bare (by assumption) rfl) (N4.isList (.head _)) (hrs.items.snoc hit) (by simp only [depth_deeper, depth_caller]; decide) rfl hpl (fun t2 s2 K2 => ?_)
  obtain ⟨h5, g5, tk5, p, q, r, rfl, F5, N5, trip, bare, htk5⟩ := afterT 7 K2 F4 N4 hn0 trip rfl rfl
  clear K2 F4 N4
  try clear N2
  try clear F2
  dsimp only [List.take, List.cons_append, List.nil_append] at N5
  walk_at "m go"
  refine wpAny_with_toks (n := 1) (by first | assumption | exact Nat.succ_pos _) ?_
  refine strItem hit fun ts tks htks htks1 => ?_
  dsimp only at htks htks1 ⊢
  walk_at "m go"
  rename Fr h₀ L _ _ => F6
  rename News h₀ L _ _ => N6
  refine add_lists (vs := rs) (ws := [.str (S qq) ts]) F6 N6 (N6.isList (.tail _ (.tail _ (.tail _ (.tail _ (.tail _ (.tail _ (.tail _ (.head _))))))))) (N6.isList (.head _)) (fun h7 F7 N7 => ?_) (by rw [hrl, sizeLine_eq]; simp; omega)
  dsimp only
  walk_at "m go"
  rename Fr h₀ L _ _ => F8
  rename News h₀ L _ _ => N8
  refine' useK ?sp ?d3 ?_
  case sp => exact text_spec (vs := rs ++ [.str (S qq) ts]) (ls := rw ++ [qq]) (X.keeps F8.keep) (T.keeps F8.keep) (by simp only [depth_deeper, depth_caller]; decide) rfl (N8.isList (.head _)) hrs.snoc hpl
  case d3 => first | assumption | exact Nat.lt_of_lt_of_le (by assumption) (Nat.le_add_right _ _) | omega
  intro vt ht9 tkt hvt hkt htkt
  obtain ⟨tt9, rfl⟩ := hvt
  have Ft := frK F8 hkt
  have Nt := newsK N8 hkt
  clear F8 N8 hkt
  try clear N6
  try clear F6
  dsimp only at Ft Nt ⊢
  walk_at "m go"
  rw [show (S (pathOf (rw ++ [qq])) != S (pathOf (rw ++ [qq]))) = false from by simp]
  walk_at "m go"
  exact ⟨rfl, ⟨Ft, ⟨p, q, r, trip, newsSub Nt (.cons _ (.cons _ (.cons _ (.cons _ (.refl _)))))⟩, bare, by assumption, eos, edr⟩⟩
end
end Mine

end
section
open PySem PySem.W PySem.Calls PyProof.Rows
open PySem.Builtin PySem.Builtin.Str
set_option Elab.async false
set_option maxRecDepth 100000
set_option maxHeartbeats 400000
namespace Mine
theorem fill_it27 (P : (OpenLaw → (Params → Frag) → Prop)) (h : P PySem.Challenge.rw_jh0011_01 hd.heap_39) : P PySem.Challenge.rw_jh0011_01 hd.heap_39 := by
  k_fill
  exact h
local macro_rules | `(tactic| walk_at "m go") => `(tactic| repeat (first | ((with_reducible show wpAny _ _ _ _ _ _); (fail_if_success (with_reducible show wpAny _ _ (PySem.exec (Stmt.For _ _ _ _ _) _) _ _ _)); (fail_if_success (with_reducible show wpAny _ _ (PySem.truthy (Value.ref _)) _ _ _)); (fail_if_success (with_reducible show wpAny _ _ (PySem.subscriptTail _ _ (Value.ref _) _) _ _ _)); (fail_if_success (with_reducible show wpAny _ _ (PySem.eval (Expr.ListComp _ _ _ _) _) _ _ _)); (fail_if_success (with_reducible show wpAny _ _ (PySem.call (Value.builtin "str.join") _ _) _ _ _)); (fail_if_success (with_reducible show wpAny _ _ (PySem.call (Value.ref _) _ _) _ _ _)); (fail_if_success (with_reducible show wpAny _ _ (PySem.compareOp _ (Value.ref _) (Value.ref _)) _ _ _)); (fail_if_success (with_reducible show wpAny _ _ (PySem.call (Value.type _) _ _) _ _ _)); (fail_if_success (with_reducible show wpAny _ _ (PySem.binaryOp _ (Value.ref _) (Value.ref _)) _ _ _)); (fail_if_success (with_reducible show wpAny _ _ (PySem.exec (Stmt.Try _ _ _ _ _) _) _ _ _)); (fail_if_success (with_reducible show wpAny _ _ (PySem.getAttr (Value.ref _) _ _) _ _ _)); (fail_if_success (with_reducible show wpAny _ _ (PySem.eval (Expr.GeneratorExp _ _ _ _) _) _ _ _)); (fail_if_success (with_reducible show wpAny _ _ (PySem.exec (Stmt.Assign _ (Expr.ListComp _ _ _ _) _) _) _ _ _)); walk1; (try dsimp only)) | (with_reducible refine And.intro (Frag.In.keeps (by assumption) (Fr.keep (by assumption))) ?_) | (with_reducible refine split_not ?_) | (with_reducible refine ite_tt ?_) | (with_reducible refine ite_ff ?_)))
local macro_rules | `(tactic| walk_at "execs cons") => `(tactic| (refine execs_consG ?hp ?_; (case hp => first | assumption | exact Nat.succ_pos _ | exact Nat.lt_of_lt_of_le (by assumption) (Nat.le_add_right _ _) | omega); intro tk' htk'))
local macro_rules | `(tactic| walk_at "execs nil") => `(tactic| refine wpAny_execs_nil ?_)
abbrev rIt (n i : Nat) : Obj := { cls := .type "range_iterator", dict := none, data := .fields #[rawInt (0 + (i : Nat) * 1), rawInt ((n : Int) - (i : Nat)), rawInt 1], slots := #[] }
section
variable {w : World} {A : Around} {s s₀ : Shared} {env : Env} {h₀ : Heap}
theorem loopT {x : Str} {px : Pos} {body : List Stmt} {I : Addr} {n : Nat} {base : List (Addr × Obj)} {m₀ : Str → Option Value} {R : Result → Shared → Prop} (hh : A.handled = none) (hx : env.kindOf x = some .local)
    (hp : (env.scope.kind == .class || (env.scope.kind == .module && env.locals != env.globals)) = false) (hn0 : ∀ b ∈ tabs, h₀.get? b = none)
    (J : Nat → (Str → Option Value) → Heap → Prop) (hJk : ∀ i m h h', J i m h → (∀ b o, b ≠ I → h.get? b = some o → h'.get? b = some o) → J i m h')
    (hb : ∀ p ∈ base, p.2.cls ≠ .type "range_iterator") (h0 : J 0 m₀ s.heap) (M0 : Mid h₀ env.locals m₀ ((I, rIt n 0) :: base) s₀ s)
    (turn : ∀ i t m₁ h s₁ E, i < n → J i m₁ h → Mid h₀ env.locals (fun y => if y = x then some (.int (i : Nat) t) else m₁ y) ((I, rIt n (i + 1)) :: base) s₀ s₁ →
      wpAny (model prog w) A (execs body env) (fun f s₂ => f = .next ∧ ∃ m₂, J (i + 1) m₂ s₂.heap ∧ Mid h₀ env.locals m₂ ((I, rIt n (i + 1)) :: base) s₀ s₂) E s₁)
    (done : ∀ m' s', J n m' s'.heap → Mid h₀ env.locals m' base s₀ s' → R (.ok .next) s') :
    codeAny (model prog w) A (.forLoop (.Name x px) (.ref I) body [] env) R s := by
  have W := Walks.range (prog := prog) (w := w) hh I 0 1 n
  refine codeAny_forLoop (fun k s' => ∃ i m', k = n + 1 - i ∧ i ≤ n ∧ J i m' s'.heap ∧ Mid h₀ env.locals m' ((I, rIt n i) :: base) s₀ s') ?_ (n + 1) ⟨0, m₀, rfl, Nat.zero_le _, h0, M0⟩
  rintro k s' ⟨i, m', rfl, hi, hJ, M⟩
  obtain ⟨F, ⟨p, q, r, trip, N⟩, bare, htk, eos, edr⟩ := M
  have hst : s'.heap.get? I = some (rIt n i) := (N _ (.head _)).1
  have hIL : I ≠ env.locals := (N _ (.head _)).2.1
  have hI0 : h₀.get? I = none := (N _ (.head _)).2.2
  have apart : ∀ y ∈ base ++ tab3 p q r, y.1 ≠ I := by
    intro y hy e
    have h1 := (N y (.tail _ hy)).1
    rw [e, hst] at h1
    have e2 := Option.some.inj h1
    rcases List.mem_append.mp hy with hy | hy
    · exact hb y hy (e2 ▸ rfl)
    · have : y.2.cls = .none := by
        rcases List.mem_cons.mp hy with rfl | hy
        · rfl
        rcases List.mem_cons.mp hy with rfl | hy
        · rfl
        rw [List.mem_singleton.mp hy]
      rw [← e2] at this
      cases this
  have next : ∀ h₁ : Heap, (∀ b o, b ∉ [I] → s'.heap.get? b = some o → h₁.get? b = some o) → Fr h₀ env.locals h₁ m' ∧ News h₀ env.locals h₁ (base ++ tab3 p q r) := fun h₁ hk₁ =>
    ⟨⟨F.ns.at' fun o e => hk₁ _ o (fun hm => hIL (List.mem_singleton.mp hm).symm) e, fun b o e => hk₁ b o (fun hm => by rw [List.mem_singleton.mp hm, hI0] at e; cases e) (F.keep b o e), F.above⟩,
      fun y hy => ⟨hk₁ _ _ (fun hm => apart y hy (List.mem_singleton.mp hm)) (N y (.tail _ hy)).1, (N y (.tail _ hy)).2⟩⟩
  refine wpAny_with_toks (n := 1) htk ?_
  by_cases hlt : i < n
  · refine W.item i _ _ _ hlt hst fun v h₁ tk₁ hP hst₁ hk₁ htk₁ => ?_
    obtain ⟨tv, rfl⟩ := hP
    obtain ⟨F₁, N₁⟩ := next h₁ hk₁
    refine wpAny_assign_Name (wpAny_storeName_local hx F₁.ns (fun h₂ hn₂ hs₂ => ?_) hp)
    have F₂ := F₁.set hn₂ hs₂
    have N₂ : News h₀ env.locals h₂ (((I, rIt n (i + 1)) :: base) ++ tab3 p q r) := by
      intro y hy
      rcases List.mem_cons.mp hy with rfl | hy
      · exact ⟨(hs₂.2 I hIL).trans hst₁, hIL, hI0⟩
      · exact (N₁.set hs₂) y hy
    have e0 : (0 + ((i : Nat) : Int) * 1) = ((i : Nat) : Int) := by omega
    refine wpAny_mono (turn i tv m' s'.heap _ _ hlt hJ ⟨by rw [← e0]; exact F₂, ⟨p, q, r, trip, N₂⟩, bare, Nat.succ_pos _, eos, edr⟩) (fun f s₃ h₃ => ?_) fun _ _ e => e
    obtain ⟨rfl, m₂, hJ₂, M₂⟩ := h₃
    exact ⟨n + 1 - (i + 1), by omega, i + 1, m₂, rfl, hlt, hJ₂, M₂⟩
  · have hin : i = n := by omega
    subst hin
    refine W.done _ _ _ hst fun h₁ tk₁ hk₁ htk₁ => wpAny_execs_nil ?_
    obtain ⟨F₁, N₁⟩ := next h₁ hk₁
    exact done m' _ (hJk _ _ _ _ hJ fun b o hb e => hk₁ b o (fun hm => hb (List.mem_singleton.mp hm)) e) ⟨F₁, ⟨p, q, r, trip, N₁⟩, bare, htk₁, eos, edr⟩
end
end Mine

end
section
open PySem PySem.W PySem.Calls PyProof.Rows
open PySem.Builtin PySem.Builtin.Str
set_option Elab.async false
set_option maxRecDepth 100000
set_option maxHeartbeats 8000000
namespace Mine
theorem fill_it28 (P : (OpenLaw → (Params → Frag) → Prop)) (h : P PySem.Challenge.rw_jh0011_01 hd.heap_39) : P PySem.Challenge.rw_jh0011_01 hd.heap_39 := by
  k_fill
  exact h
local macro_rules | `(tactic| walk_at "m go") => `(tactic| repeat (first | ((with_reducible show wpAny _ _ _ _ _ _); (fail_if_success (with_reducible show wpAny _ _ (PySem.exec (Stmt.For _ _ _ _ _) _) _ _ _)); (fail_if_success (with_reducible show wpAny _ _ (PySem.subscriptTail _ _ (Value.ref _) _) _ _ _)); (fail_if_success (with_reducible show wpAny _ _ (PySem.eval (Expr.ListComp _ _ _ _) _) _ _ _)); (fail_if_success (with_reducible show wpAny _ _ (PySem.call (Value.builtin "str.join") _ _) _ _ _)); (fail_if_success (with_reducible show wpAny _ _ (PySem.call (Value.ref _) _ _) _ _ _)); (fail_if_success (with_reducible show wpAny _ _ (PySem.compareOp _ (Value.ref _) (Value.ref _)) _ _ _)); (fail_if_success (with_reducible show wpAny _ _ (PySem.call (Value.type _) _ _) _ _ _)); (fail_if_success (with_reducible show wpAny _ _ (PySem.binaryOp _ (Value.ref _) (Value.ref _)) _ _ _)); (fail_if_success (with_reducible show wpAny _ _ (PySem.exec (Stmt.Try _ _ _ _ _) _) _ _ _)); (fail_if_success (with_reducible show wpAny _ _ (PySem.getAttr (Value.ref _) _ _) _ _ _)); (fail_if_success (with_reducible show wpAny _ _ (PySem.eval (Expr.GeneratorExp _ _ _ _) _) _ _ _)); (fail_if_success (with_reducible show wpAny _ _ (PySem.exec (Stmt.Assign _ (Expr.ListComp _ _ _ _) _) _) _ _ _)); walk1; (try dsimp only)) | (with_reducible refine And.intro (Frag.In.keeps (by assumption) (Fr.keep (by assumption))) ?_) | (with_reducible refine split_not ?_) | (with_reducible refine ite_tt ?_) | (with_reducible refine ite_ff ?_)))
local macro_rules | `(tactic| walk_at "execs cons") => `(tactic| (refine execs_consG ?hp ?_; (case hp => first | assumption | exact Nat.succ_pos _ | exact Nat.lt_of_lt_of_le (by assumption) (Nat.le_add_right _ _) | omega); intro tk' htk'))
local macro_rules | `(tactic| walk_at "execs nil") => `(tactic| refine wpAny_execs_nil ?_)
theorem take_self (l : List (List Nat)) (i : Nat) : l.take (l.take i).length = l.take i := by
  rw [List.length_take]
  by_cases h : i ≤ l.length
  · rw [Nat.min_eq_left h]
  · rw [Nat.min_eq_right (by omega), List.take_of_length_le (Nat.le_refl _), List.take_of_length_le (by omega)]
theorem apartI {h₀ h : Heap} {L I : Addr} {news : List (Addr × Obj)} {e : Addr × Obj} {o : Obj} (N : News h₀ L h news) (h1 : e ∈ news) (h2 : (I, o) ∈ news) (hc : e.2.cls ≠ o.cls) : e.1 ≠ I := fun q => by
  have := (N _ h1).1
  rw [q, (N _ h2).1] at this
  exact hc (congrArg Obj.cls (Option.some.inj this).symm)
abbrev mK (m : Str → Option Value) (oy ok : Option Value) : Str → Option Value := fun z => if z = Str.ofString "two" then oy else if z = Str.ofString "k" then ok else m z
theorem mK_eq {m : Str → Option Value} {oy ok : Option Value} {u v : Value} : (fun z => if z = Str.ofString "two" then some u else if z = Str.ofString "k" then some v else mK m oy ok z) = mK m (some u) (some v) := by
  funext z
  by_cases h1 : z = Str.ofString "two"
  · simp only [mK, if_pos h1]
  · by_cases h2 : z = Str.ofString "k"
    · simp only [mK, if_neg h1, if_pos h2]
    · simp only [mK, if_neg h1, if_neg h2]
def postC (h₀ : Heap) (L : Addr) (m : Str → Option Value) (base : List (Addr × Obj)) (ns : List Int) (s₀ s' : Shared) : Prop := ∃ y dy ly uy cy tky ny hsy kv, LS uy (otherN ns) ∧
  Mid h₀ L (mK m (some (.ref y)) (some kv)) ((y, instObj 205 dy) :: (dy, dictOf [⟨hsy, .str (Str.ofString "parts") tky, .ref ly⟩] ny) :: (ly, W.listOf (List.toArray uy) cy) :: base) s₀ s'
def JC (h₀ : Heap) (L I : Addr) (m : Str → Option Value) (ns : List Int) (i : Nat) (m' : Str → Option Value) (h : Heap) : Prop := ∃ oy ok, m' = mK m oy ok ∧
  (0 < i → ∃ y dy ly uy cy tky ny hsy kv, oy = some (.ref y) ∧ ok = some kv ∧ LS uy ((otherN ns).take (i - 1)) ∧ News h₀ L h [(y, instObj 205 dy), (dy, dictOf [⟨hsy, .str (Str.ofString "parts") tky, .ref ly⟩] ny), (ly, W.listOf (List.toArray uy) cy)] ∧
    (∀ e ∈ [(y, instObj 205 dy), (dy, dictOf [⟨hsy, .str (Str.ofString "parts") tky, .ref ly⟩] ny), (ly, W.listOf (List.toArray uy) cy)], e.1 ≠ I))
theorem JC.keep {h₀ : Heap} {L I : Addr} {m : Str → Option Value} {ns : List Int} (i : Nat) (m' : Str → Option Value) (h h' : Heap) (J : JC h₀ L I m ns i m' h) (k : ∀ b o, b ≠ I → h.get? b = some o → h'.get? b = some o) : JC h₀ L I m ns i m' h' := by
  obtain ⟨oy, ok, e, f⟩ := J
  refine ⟨oy, ok, e, fun hi => ?_⟩
  obtain ⟨y, dy, ly, uy, cy, tky, ny, hsy, kv, e1, e2, hl, N, ap⟩ := f hi
  exact ⟨y, dy, ly, uy, cy, tky, ny, hsy, kv, e1, e2, hl, fun z hz => ⟨k _ _ (ap z hz) (N z hz).1, (N z hz).2⟩, ap⟩
section
variable {w : World} {s s₀ : Shared} {loose : List Str} {mg mb : Str → Option Value} {h₀ : Heap} {L a x dx lx : Addr} {rs os us : List Value} {ns : List Int} {D1 D2 : Addr} {c1 c2 cu n : Nat} {hs : Int} {tku : Tok} {tt : List Nat} {t : Tok} {v1 v2 v3 : Value} {nv : Int} {tv : Tok}
  {oc : Value} {od : Option Addr} {osl : Array (Option Value)} {params : Arguments} {body : List Stmt} {scope : Scope} {dV kV doc pm ct : Value} {an : Option Addr}
theorem phaseC (ho : (hd.heap_39 w.params).lookup 272 = some ⟨oc, od, .func (fnOf (Str.ofString "law") (Str.ofString "law") params body scope dV kV doc pm an (.ref 271) ct), osl⟩)
    (C0 : Cx w loose mg mb h₀) (hn0 : ∀ b ∈ tabs, h₀.get? b = none) (hus : LS us (rowN ns)) (hrs : LS rs (rowN ns)) (hos : LS os (otherN ns)) (M : Mid h₀ L (fun z => if z = Str.ofString "number" then some (.int nv tv) else if z = Str.ofString "one" then some (.ref x) else mR (mP a tt t v1 v2 v3) D1 D2 z) [(x, instObj 205 dx), (dx, dictOf [⟨hs, .str (Str.ofString "parts") tku, .ref lx⟩] n), (lx, W.listOf (List.toArray us) cu), (D2, W.listOf (List.toArray os) c2), (D1, W.listOf (List.toArray rs) c1)] s₀ s) :
    wpAny (model prog w) (callerA.deeper (envOf (Str.ofString "law") scope L 272 (.ref 271))) (execs ((body.drop 11).take 1) (envOf (Str.ofString "law") scope L 272 (.ref 271)))
      (fun f s' => f = .next ∧ postC h₀ L (fun z => if z = Str.ofString "number" then some (.int nv tv) else if z = Str.ofString "one" then some (.ref x) else mR (mP a tt t v1 v2 v3) D1 D2 z) [(x, instObj 205 dx), (dx, dictOf [⟨hs, .str (Str.ofString "parts") tku, .ref lx⟩] n), (lx, W.listOf (List.toArray us) cu), (D2, W.listOf (List.toArray os) c2), (D1, W.listOf (List.toArray rs) c1)] ns s₀ s') (fun _ _ => False) s := by
  refine' lit2 (P := fun body scope => wpAny (model prog w) (callerA.deeper (envOf (Str.ofString "law") scope L 272 (.ref 271))) (execs ((body.drop 11).take 1) (envOf (Str.ofString "law") scope L 272 (.ref 271)))
      (fun f s' => f = .next ∧ postC h₀ L (fun z => if z = Str.ofString "number" then some (.int nv tv) else if z = Str.ofString "one" then some (.ref x) else mR (mP a tt t v1 v2 v3) D1 D2 z) [(x, instObj 205 dx), (dx, dictOf [⟨hs, .str (Str.ofString "parts") tku, .ref lx⟩] n), (lx, W.listOf (List.toArray us) cu), (D2, W.listOf (List.toArray os) c2), (D1, W.listOf (List.toArray rs) c1)] ns s₀ s') (fun _ _ => False) s) ho ?h1 ?_
  case h1 => k_is
  clear ho
  obtain ⟨hh₀, g, d, tk, oss⟩ := s
  have M0 := M
  obtain ⟨F, ⟨p, q, r, trip, N⟩, bare, htk, eos, edr⟩ := M
  have hL := notL N
  have X := C0.X
  have T := C0.T
  have sr := small_row ns
  have so := small_other ns
  have bb : ∀ b : Bool, (b != b) = false := fun b => by cases b <;> rfl
  have hr5 : (rowN ns).length ≤ 100000 := by have := sr.1; omega
  have ho5 : (otherN ns).length ≤ 100000 := by have := so.1; omega
  dsimp only [List.take, List.drop, List.nil_append, List.cons_append, mR, mP, mA] at F N htk bare eos edr ⊢
  walk_at "m go"
  refine wpAny_For ?_ (fun _ => rfl)
  walk_at "m go"
  rename Fr h₀ L _ _ => F1
  rename News h₀ L _ _ => N1
  refine lenL (N1.isList (.tail _ (.tail _ (.tail _ (.head _))))) hos (by have := so.1; omega) ?_
  dsimp only
  walk_at "m go"
  refine wpAny_with_toks (n := 1) (Nat.succ_pos _) ?_
  walk1
  rename_i h2 tk2 t1 u1 w1 hr F2 N2 hk2
  intro htk2
  dsimp only at htk2
  clear hk2
  refine wpAny_pyIter_range hr (small_one (by decide) (by decide) (by have := so.1; omega) (by have := so.1; omega)) ?_
  have F3 := F2.push { cls := .type "range_iterator", data := .fields #[rawInt 0, rawInt (Builtin.Range.rangeSize 0 (((otherN ns).length : Nat) + 1) 1), rawInt 1] }
  have N3 := N2.push F2 { cls := .type "range_iterator", data := .fields #[rawInt 0, rawInt (Builtin.Range.rangeSize 0 (((otherN ns).length : Nat) + 1) 1), rawInt 1] }
  have e1 : Builtin.Range.rangeSize 0 (((otherN ns).length : Nat) + 1) 1 = (((otherN ns).length + 1 : Nat) : Int) - ((0 : Nat) : Int) := by
    rw [show ((((otherN ns).length : Nat) : Int) + 1) = (((otherN ns).length + 1 : Nat) : Int) from by push_cast; rfl, rangeSize0]; simp
  rw [e1] at F3 N3 ⊢
  clear F2 N2 hr e1
  dsimp only
  generalize h2.objs.size = I at *
  generalize h2.push _ = h3 at *
  refine' loopT (n := (otherN ns).length + 1) (base := [(x, instObj 205 dx), (dx, dictOf [⟨hs, .str (Str.ofString "parts") tku, .ref lx⟩] n), (lx, W.listOf (List.toArray us) cu), (D2, W.listOf (List.toArray os) c2), (D1, W.listOf (List.toArray rs) c1)]) (m₀ := (fun z => if z = Str.ofString "number" then some (.int nv tv) else if z = Str.ofString "one" then some (.ref x) else mR (mP a tt t v1 v2 v3) D1 D2 z)) (s₀ := s₀) rfl rfl rfl hn0 (JC h₀ L I (fun z => if z = Str.ofString "number" then some (.int nv tv) else if z = Str.ofString "one" then some (.ref x) else mR (mP a tt t v1 v2 v3) D1 D2 z) ns) JC.keep ?hb ?h0 ?M0 ?turn ?done
  case hb => simp
  case h0 =>
    refine ⟨none, none, ?_, fun h => absurd h (Nat.lt_irrefl _)⟩
    funext z
    by_cases h1 : z = Str.ofString "two"
    · subst h1; rfl
    · by_cases h2 : z = Str.ofString "k"
      · subst h2; rfl
      · simp only [mK, if_neg h1, if_neg h2]
  case M0 => exact ⟨F3, ⟨p, q, r, trip, N3⟩, bare, htk2, eos, edr⟩
  case done =>
    intro m' s' J M'
    obtain ⟨oy, ok, rfl, f⟩ := J
    obtain ⟨y, dy, ly, uy, cy, tky, ny, hsy, kv, rfl, rfl, hl, Ny, ap⟩ := f (Nat.succ_pos _)
    obtain ⟨F', ⟨p', q', r', trip', N'⟩, bare', htk', eos', edr'⟩ := M'
    rw [Nat.add_sub_cancel, List.take_length] at hl
    refine wpAny_execs_nil ⟨rfl, y, dy, ly, uy, cy, tky, ny, hsy, kv, hl, ⟨F', ⟨p', q', r', trip', fun z hz => ?_⟩, bare', htk', eos', edr'⟩⟩
    rcases List.mem_cons.mp hz with rfl | hz
    · exact Ny _ (.head _)
    rcases List.mem_cons.mp hz with rfl | hz
    · exact Ny _ (.tail _ (.head _))
    rcases List.mem_cons.mp hz with rfl | hz
    · exact Ny _ (.tail _ (.tail _ (.head _)))
    exact N' z hz
  case turn =>
    clear F3 N3 trip bare htk eos edr M0
    intro i ti m₁ hp s₁ E hi J M₁
    have ht5 : ((otherN ns).take i).length ≤ 100000 := by rw [List.length_take]; omega
    obtain ⟨oy, ok, rfl, _⟩ := J
    obtain ⟨hh₁, g1, d1, tk1, os1⟩ := s₁
    obtain ⟨F, ⟨p, q, r, trip, N⟩, bare, htk, eos, edr⟩ := M₁
    dsimp only [List.cons_append, List.nil_append, mK, mR, mP, mA] at F N htk bare eos edr ⊢
    try rename Fr h₀ L hh₀ _ => Fx
    try rename News h₀ L hh₀ _ => Nx
    try clear Fx
    try clear Nx
    walk_at "m go"
    walk1
    dsimp only
    walk_at "m go"
    rename Fr h₀ _ _ _ => Fa
    rename News h₀ _ _ _ => Na
    refine' takeL (k := i) Fa Na (Na.isList (.tail _ (.tail _ (.tail _ (.tail _ (.tail _ (.head _))))))) (by rw [hos.length]; omega) ?ta1 ?tb2 ?tc3
    case tb2 => with_unfolding_all rfl
    case tc3 => intro _; with_unfolding_all rfl
    intro Da hhDa Fb Nb ltDa
    try dsimp only
    walk_at "m go"
    try clear Na
    try clear Fa
    rename Fr h₀ _ _ _ => Fc
    rename News h₀ _ _ _ => Nc
    refine ⟨methP Nc (.tail _ (.head _)) (X.keeps Fc.keep), ?_⟩
    refine call_meth Nc (.tail _ (.head _)) ?_
    refine from_code (vs := os.take i) (ps := (otherN ns).take i) (cgAt 8 C0 Fc Nc trip bare (by first | assumption | exact Nat.succ_pos _) rfl) (Nc.isList (.head _)) (hos.take i) (by rw [units_deeper, units_caller, cLine_is]; decide) (by simp only [depth_deeper, depth_caller]; decide) rfl (Nat.le_trans (so.take i).len (by decide)) (fun y s1 K1 hy => ?_)
    obtain ⟨h19, g19, tk19, p, q, r, rfl, F19, N19, trip, bare, htk19⟩ := afterT 8 K1 Fc Nc hn0 trip rfl rfl
    obtain ⟨dy, ly, uy, cy, tky, ny, hsy, huy, N20⟩ := newsPtr (frHid Fc hn0 hL) N19 hy
    clear K1 Fc Nc N19 hy
    try clear Nb
    try clear Fb
    dsimp only [List.take, List.cons_append, List.nil_append] at N20
    try dsimp only
    walk_at "m go"
    try clear N20
    try clear F19
    rename Fr h₀ _ _ _ => Fd
    rename News h₀ _ _ _ => Nd
    refine' useK ?sp4 ?dd5 ?_
    case sp4 => exact contains_spec (X.keeps Fd.keep) (T.keeps Fd.keep) (by simp only [depth_deeper, depth_caller]; decide) (by rw [units_deeper, units_caller, cLine_is]; decide) (ptrNews Nd hus (.tail _ (.tail _ (.tail _ (.tail _ (.tail _ (.tail _ (.head _))))))) (.tail _ (.tail _ (.tail _ (.tail _ (.tail _ (.tail _ (.tail _ (.head _)))))))) (.tail _ (.tail _ (.tail _ (.tail _ (.tail _ (.tail _ (.tail _ (.tail _ (.head _)))))))))) (ptrNews Nd huy (.head _) (.tail _ (.head _)) (.tail _ (.tail _ (.head _)))) hr5 ht5 sr.a7 (so.take i).a7
    case dd5 => first | assumption | exact Nat.succ_pos _
    intro vv6 hp7 tk8 hv9 hk10 ht11
    subst hv9
    have Fe := frK Fd hk10
    have Ne := newsK Nd hk10
    clear Fd Nd hk10
    dsimp only at Fe Ne ⊢
    walk_at "m go"
    rename Fr h₀ _ _ _ => Ff
    rename News h₀ _ _ _ => Nf
    refine' takeL (k := i) Ff Nf (Nf.isList (.tail _ (.tail _ (.tail _ (.tail _ (.tail _ (.tail _ (.tail _ (.tail _ (.tail _ (.head _))))))))))) (by rw [hos.length]; omega) ?ta12 ?tb13 ?tc14
    case tb13 => with_unfolding_all rfl
    case tc14 => intro _; with_unfolding_all rfl
    intro Db hhDb Fg Ng ltDb
    try dsimp only
    walk_at "m go"
    try clear Nf
    try clear Ff
    rename Fr h₀ _ _ _ => Fh
    rename News h₀ _ _ _ => Nh
    refine' useK ?sp15 ?dd16 ?_
    case sp15 => exact begins_spec (vs := rs) (us := os.take i) (X.keeps Fh.keep) (T.keeps Fh.keep) (by simp only [depth_deeper, depth_caller]; decide) rfl (Nh.isList (.tail _ (.tail _ (.tail _ (.tail _ (.tail _ (.tail _ (.tail _ (.tail _ (.tail _ (.tail _ (.tail _ (.head _))))))))))))) hrs (Nh.isList (.head _)) (hos.take i) hr5 ht5
    case dd16 => first | assumption | exact Nat.succ_pos _
    intro vv17 hp18 tk19 hv20 hk21 ht22
    subst hv20
    have Fi := frK Fh hk21
    have Ni := newsK Nh hk21
    clear Fh Nh hk21
    dsimp only at Fi Ni ⊢
    walk_at "m go"
    rw [bb]
    walk_at "m go"
    rename Fr h₀ _ _ _ => Fj
    rename News h₀ _ _ _ => Nj
    refine' useK ?sp23 ?dd24 ?_
    case sp23 => exact contains_spec (X.keeps Fj.keep) (T.keeps Fj.keep) (by simp only [depth_deeper, depth_caller]; decide) (by rw [units_deeper, units_caller, cLine_is]; decide) (ptrNews Nj huy (.tail _ (.head _)) (.tail _ (.tail _ (.head _))) (.tail _ (.tail _ (.tail _ (.head _))))) (ptrNews Nj hus (.tail _ (.tail _ (.tail _ (.tail _ (.tail _ (.tail _ (.tail _ (.head _)))))))) (.tail _ (.tail _ (.tail _ (.tail _ (.tail _ (.tail _ (.tail _ (.tail _ (.head _))))))))) (.tail _ (.tail _ (.tail _ (.tail _ (.tail _ (.tail _ (.tail _ (.tail _ (.tail _ (.head _))))))))))) ht5 hr5 (so.take i).a7 sr.a7
    case dd24 => first | assumption | exact Nat.succ_pos _
    intro vv25 hp26 tk27 hv28 hk29 ht30
    subst hv28
    have Fk := frK Fj hk29
    have Nk := newsK Nj hk29
    clear Fj Nj hk29
    dsimp only at Fk Nk ⊢
    walk_at "m go"
    rename Fr h₀ _ _ _ => Fl
    rename News h₀ _ _ _ => Nl
    refine' takeL (k := i) Fl Nl (Nl.isList (.tail _ (.tail _ (.tail _ (.tail _ (.tail _ (.tail _ (.tail _ (.tail _ (.tail _ (.tail _ (.head _)))))))))))) (by rw [hos.length]; omega) ?ta31 ?tb32 ?tc33
    case tb32 => with_unfolding_all rfl
    case tc33 => intro _; with_unfolding_all rfl
    intro Dc hhDc Fm Nm ltDc
    try dsimp only
    walk_at "m go"
    try clear Nl
    try clear Fl
    rename Fr h₀ _ _ _ => Fn
    rename News h₀ _ _ _ => Nn
    refine' useK ?sp34 ?dd35 ?_
    case sp34 => exact begins_spec (vs := os.take i) (us := rs) (X.keeps Fn.keep) (T.keeps Fn.keep) (by simp only [depth_deeper, depth_caller]; decide) rfl (Nn.isList (.head _)) (hos.take i) (Nn.isList (.tail _ (.tail _ (.tail _ (.tail _ (.tail _ (.tail _ (.tail _ (.tail _ (.tail _ (.tail _ (.tail _ (.tail _ (.head _)))))))))))))) hrs ht5 hr5
    case dd35 => first | assumption | exact Nat.succ_pos _
    intro vv36 hp37 tk38 hv39 hk40 ht41
    subst hv39
    have Fo := frK Fn hk40
    have No := newsK Nn hk40
    clear Fn Nn hk40
    dsimp only at Fo No ⊢
    walk_at "m go"
    rw [bb]
    walk_at "m go"
    walk1
    walk_at "m go"
    rename Fr h₀ _ _ _ => Fp
    rename News h₀ _ _ _ => Np
    refine' useK ?sp42 ?dd43 ?_
    case sp42 => exact eq_spec (X.keeps Fp.keep) (T.keeps Fp.keep) (by simp only [depth_deeper, depth_caller]; decide) (by rw [units_deeper, units_caller, cLine_is]; decide) (ptrNews Np hus (.tail _ (.tail _ (.tail _ (.tail _ (.tail _ (.tail _ (.tail _ (.tail _ (.head _))))))))) (.tail _ (.tail _ (.tail _ (.tail _ (.tail _ (.tail _ (.tail _ (.tail _ (.tail _ (.head _)))))))))) (.tail _ (.tail _ (.tail _ (.tail _ (.tail _ (.tail _ (.tail _ (.tail _ (.tail _ (.tail _ (.head _)))))))))))) (ptrNews Np huy (.tail _ (.tail _ (.head _))) (.tail _ (.tail _ (.tail _ (.head _)))) (.tail _ (.tail _ (.tail _ (.tail _ (.head _)))))) sr.a7 (so.take i).a7
    case dd43 => first | assumption | exact Nat.succ_pos _
    intro vv44 hp45 tk46 hv47 hk48 ht49
    subst hv47
    have Fq := frK Fp hk48
    have Nq := newsK Np hk48
    clear Fp Np hk48
    try dsimp only at Fq Nq
    try dsimp only [PySem.W.CmpBack]
    walk_at "m go"
    rename Fr h₀ _ _ _ => Fr1
    rename News h₀ _ _ _ => Nr1
    refine' takeL (k := i) Fr1 Nr1 (Nr1.isList (.tail _ (.tail _ (.tail _ (.tail _ (.tail _ (.tail _ (.tail _ (.tail _ (.tail _ (.tail _ (.tail _ (.head _))))))))))))) (by rw [hos.length]; omega) ?ta50 ?tb51 ?tc52
    case tb51 => with_unfolding_all rfl
    case tc52 => intro _; with_unfolding_all rfl
    intro Dd hhDd Fs Ns ltDd
    try dsimp only
    walk_at "m go"
    try clear Nr1
    try clear Fr1
    rename Fr h₀ _ _ _ => Ft
    rename News h₀ _ _ _ => Nt
    refine eqLists (Nt.isList (.tail _ (.tail _ (.tail _ (.tail _ (.tail _ (.tail _ (.tail _ (.tail _ (.tail _ (.tail _ (.tail _ (.tail _ (.tail _ (.head _))))))))))))))) (Nt.isList (.head _)) hrs (hos.take i) sr.a7 (so.take i).a7 (by rw [units_deeper, units_caller, cLine_is]; decide) ?_
    try dsimp only
    walk_at "m go"
    rw [bb]
    walk_at "m go"
    walk1
    try dsimp only
    walk_at "m go"
    try clear Nt
    try clear Ft
    rename Fr h₀ _ _ _ => Fu
    rename News h₀ _ _ _ => Nu
    refine' takeL (k := i) Fu Nu (Nu.isList (.tail _ (.tail _ (.tail _ (.tail _ (.tail _ (.tail _ (.tail _ (.tail _ (.tail _ (.tail _ (.tail _ (.tail _ (.tail _ (.tail _ (.head _)))))))))))))))) (by rw [hrs.length]; omega) ?ta53 ?tb54 ?tc55
    case tb54 => with_unfolding_all rfl
    case tc55 => intro _; with_unfolding_all rfl
    intro De hhDe Fv Nv ltDe
    try dsimp only
    walk_at "m go"
    try clear Nu
    try clear Fu
    rename Fr h₀ _ _ _ => Fw
    rename News h₀ _ _ _ => Nw
    refine ⟨methP Nw (.tail _ (.head _)) (X.keeps Fw.keep), ?_⟩
    refine call_meth Nw (.tail _ (.head _)) ?_
    refine from_code (vs := rs.take i) (ps := (rowN ns).take i) (cgAt 16 C0 Fw Nw trip bare (by first | assumption | exact Nat.succ_pos _) rfl) (Nw.isList (.head _)) (hrs.take i) (by rw [units_deeper, units_caller, cLine_is]; decide) (by simp only [depth_deeper, depth_caller]; decide) rfl (Nat.le_trans (sr.take i).len (by decide)) (fun z s1 K1 hz => ?_)
    obtain ⟨h29, g29, tk29, p, q, r, rfl, F29, N29, trip, bare, htk29⟩ := afterT 16 K1 Fw Nw hn0 trip rfl rfl
    obtain ⟨dz, lz, uz, cz, tkz, nz, hsz, huz, N30⟩ := newsPtr (frHid Fw hn0 hL) N29 hz
    clear K1 Fw Nw N29 hz
    try clear Nv
    try clear Fv
    dsimp only [List.take, List.cons_append, List.nil_append] at N30
    try dsimp only
    walk_at "m go"
    rename Fr h₀ _ _ _ => Fz
    rename News h₀ _ _ _ => Nz
    refine' useK ?sp56 ?dd57 ?_
    case sp56 => exact contains_spec (X.keeps Fz.keep) (T.keeps Fz.keep) (by simp only [depth_deeper, depth_caller]; decide) (by rw [units_deeper, units_caller, cLine_is]; decide) (ptrNews Nz hus (.tail _ (.tail _ (.tail _ (.tail _ (.tail _ (.tail _ (.tail _ (.tail _ (.tail _ (.tail _ (.tail _ (.tail _ (.tail _ (.tail _ (.head _))))))))))))))) (.tail _ (.tail _ (.tail _ (.tail _ (.tail _ (.tail _ (.tail _ (.tail _ (.tail _ (.tail _ (.tail _ (.tail _ (.tail _ (.tail _ (.tail _ (.head _)))))))))))))))) (.tail _ (.tail _ (.tail _ (.tail _ (.tail _ (.tail _ (.tail _ (.tail _ (.tail _ (.tail _ (.tail _ (.tail _ (.tail _ (.tail _ (.tail _ (.tail _ (.head _)))))))))))))))))) (ptrNews Nz huz (.head _) (.tail _ (.head _)) (.tail _ (.tail _ (.head _)))) hr5 (by rw [List.length_take]; omega) sr.a7 (sr.take i).a7
    case dd57 => first | assumption | exact Nat.succ_pos _
    intro vv58 hp59 tk60 hv61 hk62 ht63
    subst hv61
    have Fy := frK Fz hk62
    have Ny := newsK Nz hk62
    clear Fz Nz hk62
    dsimp only at Fy Ny ⊢
    rw [show decide (List.take (List.take i (rowN ns)).length (rowN ns) = List.take i (rowN ns)) = true from by rw [take_self]; simp]
    walk_at "m go"
    rename Fr h₀ _ _ _ => F9
    rename News h₀ _ _ _ => N9
    have N9' := N9
    refine ⟨rfl, _, ⟨some (.ref y), some (.int (i : Nat) ti), mK_eq (oy := oy) (ok := ok), fun _ => ⟨y, dy, ly, uy, cy, tky, ny, hsy, _, rfl, rfl, by rw [Nat.add_sub_cancel]; exact huy, newsSub N9 (.cons _ (.cons _ (.cons _ (.cons _ (.cons _ (.cons _ (.cons _ (.cons _ (.cons₂ _ (.cons₂ _ (.cons₂ _ (List.nil_sublist _)))))))))))), ?_⟩⟩, ⟨F9, ⟨p, q, r, trip, newsSub N9' (.cons _ (.cons _ (.cons _ (.cons _ (.cons _ (.cons _ (.cons _ (.cons _ (.cons _ (.cons _ (.cons _ (.cons _ (.cons _ (.refl _))))))))))))))⟩, bare, by assumption, eos, edr⟩⟩
    intro e he
    refine apartI N9 (o := rIt ((otherN ns).length + 1) (i + 1)) ?_ (.tail _ (.tail _ (.tail _ (.tail _ (.tail _ (.tail _ (.tail _ (.tail _ (.tail _ (.tail _ (.tail _ (.tail _ (.tail _ (.head _)))))))))))))) ?_
    · rcases List.mem_cons.mp he with rfl | he
      · exact (.tail _ (.tail _ (.tail _ (.tail _ (.tail _ (.tail _ (.tail _ (.tail _ (.head _)))))))))
      rcases List.mem_cons.mp he with rfl | he
      · exact (.tail _ (.tail _ (.tail _ (.tail _ (.tail _ (.tail _ (.tail _ (.tail _ (.tail _ (.head _))))))))))
      rw [List.mem_singleton.mp he]
      exact (.tail _ (.tail _ (.tail _ (.tail _ (.tail _ (.tail _ (.tail _ (.tail _ (.tail _ (.tail _ (.head _)))))))))))
    · rcases List.mem_cons.mp he with rfl | he
      · simp
      rcases List.mem_cons.mp he with rfl | he
      · simp
      rw [List.mem_singleton.mp he]; simp
end
end Mine

end
section
open PySem PySem.W PySem.Calls PyProof.Rows
open PySem.Builtin PySem.Builtin.Str
set_option Elab.async false
set_option maxRecDepth 100000
set_option maxHeartbeats 400000
namespace Mine
theorem fill_it29 (P : (OpenLaw → (Params → Frag) → Prop)) (h : P PySem.Challenge.rw_jh0011_01 hd.heap_39) : P PySem.Challenge.rw_jh0011_01 hd.heap_39 := by
  k_fill
  exact h
local macro_rules | `(tactic| walk_at "m go") => `(tactic| repeat (first | ((with_reducible show wpAny _ _ _ _ _ _); (fail_if_success (with_reducible show wpAny _ _ (PySem.exec (Stmt.For _ _ _ _ _) _) _ _ _)); (fail_if_success (with_reducible show wpAny _ _ (PySem.truthy (Value.ref _)) _ _ _)); (fail_if_success (with_reducible show wpAny _ _ (PySem.subscriptTail _ _ (Value.ref _) _) _ _ _)); (fail_if_success (with_reducible show wpAny _ _ (PySem.eval (Expr.ListComp _ _ _ _) _) _ _ _)); (fail_if_success (with_reducible show wpAny _ _ (PySem.call (Value.builtin "str.join") _ _) _ _ _)); (fail_if_success (with_reducible show wpAny _ _ (PySem.call (Value.ref _) _ _) _ _ _)); (fail_if_success (with_reducible show wpAny _ _ (PySem.compareOp _ (Value.ref _) (Value.ref _)) _ _ _)); (fail_if_success (with_reducible show wpAny _ _ (PySem.call (Value.type _) _ _) _ _ _)); (fail_if_success (with_reducible show wpAny _ _ (PySem.binaryOp _ (Value.ref _) (Value.ref _)) _ _ _)); (fail_if_success (with_reducible show wpAny _ _ (PySem.exec (Stmt.Try _ _ _ _ _) _) _ _ _)); (fail_if_success (with_reducible show wpAny _ _ (PySem.getAttr (Value.ref _) _ _) _ _ _)); (fail_if_success (with_reducible show wpAny _ _ (PySem.eval (Expr.GeneratorExp _ _ _ _) _) _ _ _)); (fail_if_success (with_reducible show wpAny _ _ (PySem.exec (Stmt.Assign _ (Expr.ListComp _ _ _ _) _) _) _ _ _)); walk1; (try dsimp only)) | (with_reducible refine And.intro (Frag.In.keeps (by assumption) (Fr.keep (by assumption))) ?_) | (with_reducible refine split_not ?_) | (with_reducible refine ite_tt ?_) | (with_reducible refine ite_ff ?_)))
local macro_rules | `(tactic| walk_at "execs cons") => `(tactic| (refine execs_consG ?hp ?_; (case hp => first | assumption | exact Nat.succ_pos _ | exact Nat.lt_of_lt_of_le (by assumption) (Nat.le_add_right _ _) | omega); intro tk' htk'))
local macro_rules | `(tactic| walk_at "execs nil") => `(tactic| refine wpAny_execs_nil ?_)
abbrev tIt (ax : Addr) (i : Nat) (dd : Option Addr) (sl : Array (Option Value)) : Obj := { cls := .type "tuple_iterator", dict := dd, data := .fields #[.ref ax, .int (i : Nat) 0], slots := sl }
theorem tIt_of {h : Heap} {I ax : Addr} {i : Nat} (x : h.IsTupleIter I ax i) : ∃ dd sl, h.get? I = some (tIt ax i dd sl) := by
  obtain ⟨o, ho, hc, hd⟩ := x
  obtain ⟨c, dd, dt, sl⟩ := o
  dsimp only at hc hd
  subst hc hd
  exact ⟨dd, sl, ho⟩
theorem tIt_is {h : Heap} {I ax : Addr} {i : Nat} {dd : Option Addr} {sl : Array (Option Value)} (e : h.get? I = some (tIt ax i dd sl)) : h.IsTupleIter I ax i := ⟨_, e, rfl, rfl⟩
section
variable {w : World} {A : Around} {s s₀ : Shared} {env : Env} {h₀ : Heap}
theorem loopU {x : Str} {px : Pos} {body : List Stmt} {I ax : Addr} {items : Array Value} {base : List (Addr × Obj)} {m₀ : Str → Option Value} {R : Result → Shared → Prop} (hh : A.handled = none) (hx : env.kindOf x = some .local)
    (hp : (env.scope.kind == .class || (env.scope.kind == .module && env.locals != env.globals)) = false) (hn0 : ∀ b ∈ tabs, h₀.get? b = none)
    (J : Nat → (Str → Option Value) → Prop) (hb : ∀ p ∈ base, p.2.cls ≠ .type "tuple_iterator") (hax : ∃ c, (ax, ({ cls := .type "tuple", data := .seq items c } : Obj)) ∈ base) (h0 : J 0 m₀) (M0 : ∃ dd sl, Mid h₀ env.locals m₀ ((I, tIt ax 0 dd sl) :: base) s₀ s)
    (turn : ∀ i v m₁ s₁ E dd sl, items[i]? = some v → J i m₁ → Mid h₀ env.locals (fun y => if y = x then some v else m₁ y) ((I, tIt ax (i + 1) dd sl) :: base) s₀ s₁ →
      wpAny (model prog w) A (execs body env) (fun f s₂ => f = .next ∧ ∃ m₂, J (i + 1) m₂ ∧ Mid h₀ env.locals m₂ ((I, tIt ax (i + 1) dd sl) :: base) s₀ s₂) E s₁)
    (done : ∀ m' s', J items.size m' → Mid h₀ env.locals m' base s₀ s' → R (.ok .next) s') :
    codeAny (model prog w) A (.forLoop (.Name x px) (.ref I) body [] env) R s := by
  obtain ⟨dd, sl, M0⟩ := M0
  obtain ⟨cx, hax⟩ := hax
  have hne : ax ≠ I := by
    obtain ⟨_, ⟨p, q, r, _, N⟩, _⟩ := M0
    intro e
    have h1 := (N (ax, _) (.tail _ (List.mem_append_left _ hax))).1
    have h2 := (N _ (.head _)).1
    dsimp only at h1 h2
    rw [e, h2] at h1
    have h3 := congrArg Obj.cls (Option.some.inj h1)
    exact absurd h3 (by simp)
  have W := Walks.tuple (prog := prog) (w := w) hh I ax hne items
  refine codeAny_forLoop (fun k s' => ∃ i m' dd sl, k = items.size + 1 - i ∧ i ≤ items.size ∧ J i m' ∧ Mid h₀ env.locals m' ((I, tIt ax i dd sl) :: base) s₀ s') ?_ (items.size + 1) ⟨0, m₀, dd, sl, rfl, Nat.zero_le _, h0, M0⟩
  rintro k s' ⟨i, m', dd, sl, rfl, hi, hJ, M⟩
  obtain ⟨F, ⟨p, q, r, trip, N⟩, bare, htk, eos, edr⟩ := M
  have hst : s'.heap.get? I = some (tIt ax i dd sl) := (N _ (.head _)).1
  have hIL : I ≠ env.locals := (N _ (.head _)).2.1
  have hI0 : h₀.get? I = none := (N _ (.head _)).2.2
  have hSt : s'.heap.IsTupleIter I ax i ∧ s'.heap.IsTuple ax items := ⟨tIt_is hst, ⟨_, (N (ax, _) (.tail _ (List.mem_append_left _ hax))).1, rfl, cx, rfl⟩⟩
  have apart : ∀ y ∈ base ++ tab3 p q r, y.1 ≠ I := by
    intro y hy e
    have h1 := (N y (.tail _ hy)).1
    rw [e, hst] at h1
    have e2 := Option.some.inj h1
    rcases List.mem_append.mp hy with hy | hy
    · exact hb y hy (e2 ▸ rfl)
    · have : y.2.cls = .none := by
        rcases List.mem_cons.mp hy with rfl | hy
        · rfl
        rcases List.mem_cons.mp hy with rfl | hy
        · rfl
        rw [List.mem_singleton.mp hy]
      rw [← e2] at this
      cases this
  have next : ∀ h₁ : Heap, (∀ b o, b ∉ [I] → s'.heap.get? b = some o → h₁.get? b = some o) → Fr h₀ env.locals h₁ m' ∧ News h₀ env.locals h₁ (base ++ tab3 p q r) := fun h₁ hk₁ =>
    ⟨⟨F.ns.at' fun o e => hk₁ _ o (fun hm => hIL (List.mem_singleton.mp hm).symm) e, fun b o e => hk₁ b o (fun hm => by rw [List.mem_singleton.mp hm, hI0] at e; cases e) (F.keep b o e), F.above⟩,
      fun y hy => ⟨hk₁ _ _ (fun hm => apart y hy (List.mem_singleton.mp hm)) (N y (.tail _ hy)).1, (N y (.tail _ hy)).2⟩⟩
  refine wpAny_with_toks (n := 1) htk ?_
  by_cases hlt : i < items.size
  · refine W.item i _ _ _ hlt hSt fun v h₁ tk₁ hP hst₁ hk₁ htk₁ => ?_
    obtain ⟨dd1, sl1, hg1⟩ := tIt_of hst₁.1
    obtain ⟨F₁, N₁⟩ := next h₁ hk₁
    refine wpAny_assign_Name (wpAny_storeName_local hx F₁.ns (fun h₂ hn₂ hs₂ => ?_) hp)
    have F₂ := F₁.set hn₂ hs₂
    have N₂ : News h₀ env.locals h₂ (((I, tIt ax (i + 1) dd1 sl1) :: base) ++ tab3 p q r) := by
      intro y hy
      rcases List.mem_cons.mp hy with rfl | hy
      · exact ⟨(hs₂.2 I hIL).trans hg1, hIL, hI0⟩
      · exact (N₁.set hs₂) y hy
    refine wpAny_mono (turn i v m' _ _ dd1 sl1 hP hJ ⟨F₂, ⟨p, q, r, trip, N₂⟩, bare, Nat.succ_pos _, eos, edr⟩) (fun f s₃ h₃ => ?_) fun _ _ e => e
    obtain ⟨rfl, m₂, hJ₂, M₂⟩ := h₃
    exact ⟨items.size + 1 - (i + 1), by omega, i + 1, m₂, dd1, sl1, rfl, hlt, hJ₂, M₂⟩
  · have hin : i = items.size := by omega
    subst hin
    refine W.done _ _ _ hSt fun h₁ tk₁ hk₁ htk₁ => wpAny_execs_nil ?_
    obtain ⟨F₁, N₁⟩ := next h₁ hk₁
    exact done m' _ hJ ⟨F₁, ⟨p, q, r, trip, N₁⟩, bare, htk₁, eos, edr⟩
end
end Mine

end
section
open PySem PySem.W PySem.Calls PyProof.Rows
open PySem.Builtin PySem.Builtin.Str
set_option Elab.async false
set_option maxRecDepth 100000
set_option maxHeartbeats 8000000
namespace Mine
theorem fill_it30 (P : (OpenLaw → (Params → Frag) → Prop)) (h : P PySem.Challenge.rw_jh0011_01 hd.heap_39) : P PySem.Challenge.rw_jh0011_01 hd.heap_39 := by
  k_fill
  exact h
local macro_rules | `(tactic| walk_at "m go") => `(tactic| repeat (first | ((with_reducible show wpAny _ _ _ _ _ _); (fail_if_success (with_reducible show wpAny _ _ (PySem.exec (Stmt.For _ _ _ _ _) _) _ _ _)); (fail_if_success (with_reducible show wpAny _ _ (PySem.subscriptTail _ _ (Value.ref _) _) _ _ _)); (fail_if_success (with_reducible show wpAny _ _ (PySem.eval (Expr.ListComp _ _ _ _) _) _ _ _)); (fail_if_success (with_reducible show wpAny _ _ (PySem.call (Value.builtin "str.join") _ _) _ _ _)); (fail_if_success (with_reducible show wpAny _ _ (PySem.call (Value.ref _) _ _) _ _ _)); (fail_if_success (with_reducible show wpAny _ _ (PySem.compareOp _ (Value.ref _) (Value.ref _)) _ _ _)); (fail_if_success (with_reducible show wpAny _ _ (PySem.call (Value.type _) _ _) _ _ _)); (fail_if_success (with_reducible show wpAny _ _ (PySem.binaryOp _ (Value.ref _) (Value.ref _)) _ _ _)); (fail_if_success (with_reducible show wpAny _ _ (PySem.exec (Stmt.Try _ _ _ _ _) _) _ _ _)); (fail_if_success (with_reducible show wpAny _ _ (PySem.getAttr (Value.ref _) _ _) _ _ _)); (fail_if_success (with_reducible show wpAny _ _ (PySem.eval (Expr.GeneratorExp _ _ _ _) _) _ _ _)); (fail_if_success (with_reducible show wpAny _ _ (PySem.exec (Stmt.Assign _ (Expr.ListComp _ _ _ _) _) _) _ _ _)); walk1; (try dsimp only)) | (with_reducible refine And.intro (Frag.In.keeps (by assumption) (Fr.keep (by assumption))) ?_) | (with_reducible refine split_not ?_) | (with_reducible refine ite_tt ?_) | (with_reducible refine ite_ff ?_)))
local macro_rules | `(tactic| walk_at "execs cons") => `(tactic| (refine execs_consG ?hp ?_; (case hp => first | assumption | exact Nat.succ_pos _ | exact Nat.lt_of_lt_of_le (by assumption) (Nat.le_add_right _ _) | omega); intro tk' htk'))
local macro_rules | `(tactic| walk_at "execs nil") => `(tactic| refine wpAny_execs_nil ?_)
abbrev mL (m : Str → Option Value) (ol : Option Value) : Str → Option Value := fun z => if z = Str.ofString "last" then ol else m z
theorem mL_eq {m : Str → Option Value} {ol : Option Value} {v : Value} : (fun z => if z = Str.ofString "last" then some v else mL m ol z) = mL m (some v) := by
  funext z
  by_cases h1 : z = Str.ofString "last"
  · simp only [mL, if_pos h1]
  · simp only [mL, if_neg h1]
theorem iterTup {w : World} {A : Around} {E : Value → Shared → Prop} {h₀ h : Heap} {L T : Addr} {m : Str → Option Value} {g : Array GenState} {d : Drawn} {tk : Nat} {os : OsState} {items : Array Value} {news : List (Addr × Obj)} {Q : Value → Shared → Prop} (N : News h₀ L h ((T, ({ cls := .type "tuple", data := .seq items } : Obj)) :: news)) (F : Fr h₀ L h m)
    (hq : ∀ I h', Fr h₀ L h' m → News h₀ L h' ((I, tIt T 0 none #[]) :: (T, ({ cls := .type "tuple", data := .seq items } : Obj)) :: news) → Q (.ref I) ⟨h', g, d, tk, os⟩) : wpAny (model prog w) A (pyIter (.ref T)) Q E ⟨h, g, d, tk, os⟩ :=
  wpAny_pyIter_tuple (items := items) ⟨_, (N _ (.head _)).1, rfl, _, rfl⟩ (hq _ _ (F.push _) (N.push F _))
section
variable {w : World} {s s₀ : Shared} {loose : List Str} {mg mb : Str → Option Value} {h₀ : Heap} {L a x dx lx y dy ly : Addr} {rs os us uy : List Value} {ns : List Int} {D1 D2 : Addr} {c1 c2 cu cy n ny : Nat} {hs hsy : Int} {tku tky : Tok} {tt : List Nat} {t : Tok} {v1 v2 v3 kv : Value} {nv : Int} {tv : Tok}
  {oc : Value} {od : Option Addr} {osl : Array (Option Value)} {params : Arguments} {body : List Stmt} {scope : Scope} {dV kV doc pm ct : Value} {an : Option Addr}
theorem phaseD (ho : (hd.heap_39 w.params).lookup 272 = some ⟨oc, od, .func (fnOf (Str.ofString "law") (Str.ofString "law") params body scope dV kV doc pm an (.ref 271) ct), osl⟩)
    (C0 : Cx w loose mg mb h₀) (hn0 : ∀ b ∈ tabs, h₀.get? b = none) (hus : LS us (rowN ns)) (huy : LS uy (otherN ns)) (hrs : LS rs (rowN ns)) (hos : LS os (otherN ns)) (M : Mid h₀ L (mK (fun z => if z = Str.ofString "number" then some (.int nv tv) else if z = Str.ofString "one" then some (.ref x) else mR (mP a tt t v1 v2 v3) D1 D2 z) (some (.ref y)) (some kv)) [(y, instObj 205 dy), (dy, dictOf [⟨hsy, .str (Str.ofString "parts") tky, .ref ly⟩] ny), (ly, W.listOf (List.toArray uy) cy), (x, instObj 205 dx), (dx, dictOf [⟨hs, .str (Str.ofString "parts") tku, .ref lx⟩] n), (lx, W.listOf (List.toArray us) cu), (D2, W.listOf (List.toArray os) c2), (D1, W.listOf (List.toArray rs) c1)] s₀ s) :
    wpAny (model prog w) (callerA.deeper (envOf (Str.ofString "law") scope L 272 (.ref 271))) (execs (body.drop 12) (envOf (Str.ofString "law") scope L 272 (.ref 271)))
      (fun f s' => f = .ret (.bool true) ∧ ∃ m', Mid h₀ L m' [] s₀ s') (fun _ _ => False) s := by
  refine' lit2 (P := fun body scope => wpAny (model prog w) (callerA.deeper (envOf (Str.ofString "law") scope L 272 (.ref 271))) (execs (body.drop 12) (envOf (Str.ofString "law") scope L 272 (.ref 271)))
      (fun f s' => f = .ret (.bool true) ∧ ∃ m', Mid h₀ L m' [] s₀ s') (fun _ _ => False) s) ho ?h1 ?_
  case h1 => k_is
  clear ho
  obtain ⟨hh₀, g, d, tk, oss⟩ := s
  obtain ⟨F, ⟨p, q, r, trip, N⟩, bare, htk, eos, edr⟩ := M
  have hL := notL N
  have X := C0.X
  have T := C0.T
  have sr := small_row ns
  have so := small_other ns
  generalize rowN ns = rw at *
  generalize otherN ns = ow at *
  have hpo : (pathOf ow).length ≤ 100000 := Nat.le_trans so.len (by decide)
  have hpro : (pathOf (rw ++ ow)).length ≤ 100000 := Nat.le_trans (sr.len2 so) (by decide)
  have hr6 := sr.1
  have ho6 := so.1
  have a7 : A7L (rw ++ ow) := fun l hl => (List.mem_append.mp hl).elim (sr.a7 l) (so.a7 l)
  dsimp only [List.take, List.drop, List.nil_append, List.cons_append, mR, mP, mA, mK] at F N htk bare eos edr ⊢
  walk_at "m go"
  refine wpAny_For ?_ (fun _ => rfl)
  walk_at "m go"
  rename Fr h₀ _ _ _ => F1
  rename News h₀ _ _ _ => N1
  refine' useK ?sp ?d3 ?_
  case sp => exact text_spec (X.keeps F1.keep) (T.keeps F1.keep) (by simp only [depth_deeper, depth_caller]; decide) rfl (N1.isList (.tail _ (.tail _ (.tail _ (.tail _ (.tail _ (.tail _ (.head _)))))))) hos hpo
  case d3 => first | assumption | exact Nat.succ_pos _
  intro vt ht9 tkt hvt hkt htkt
  obtain ⟨tq, rfl⟩ := hvt
  have Ft := frK F1 hkt
  have Nt := newsK N1 hkt
  clear F1 N1 hkt
  dsimp only at Ft Nt ⊢
  walk_at "m go"
  rename Fr h₀ _ _ _ => F2
  rename News h₀ _ _ _ => N2
  refine iterTup N2 F2 (fun I h3 F3 N3 => ?_)
  try dsimp only
  clear F2 N2
  refine' loopU (items := #[.ref y, .str (S (pathOf ow)) tq, .ref D2]) (base := (_, ({ cls := .type "tuple", data := .seq #[.ref y, .str (S (pathOf ow)) tq, .ref D2] } : Obj)) :: [(y, instObj 205 dy), (dy, dictOf [⟨hsy, .str (Str.ofString "parts") tky, .ref ly⟩] ny), (ly, W.listOf (List.toArray uy) cy), (x, instObj 205 dx), (dx, dictOf [⟨hs, .str (Str.ofString "parts") tku, .ref lx⟩] n), (lx, W.listOf (List.toArray us) cu), (D2, W.listOf (List.toArray os) c2), (D1, W.listOf (List.toArray rs) c1)]) (m₀ := (mK (fun z => if z = Str.ofString "number" then some (.int nv tv) else if z = Str.ofString "one" then some (.ref x) else mR (mP a tt t v1 v2 v3) D1 D2 z) (some (.ref y)) (some kv))) (s₀ := s₀) rfl rfl rfl hn0 (fun _ m' => ∃ ol, m' = mL (mK (fun z => if z = Str.ofString "number" then some (.int nv tv) else if z = Str.ofString "one" then some (.ref x) else mR (mP a tt t v1 v2 v3) D1 D2 z) (some (.ref y)) (some kv)) ol) ?hb ?hax ⟨none, ?h0⟩ ⟨none, #[], ⟨F3, ⟨p, q, r, trip, N3⟩, bare, by first | assumption | exact Nat.succ_pos _, eos, edr⟩⟩ ?turn ?done
  case hb => simp
  case hax => exact ⟨_, .head _⟩
  case h0 =>
    funext z
    by_cases h1 : z = Str.ofString "last"
    · subst h1; rfl
    · simp only [mL, if_neg h1]
  case done =>
    intro m' s' J M'
    obtain ⟨ol, rfl⟩ := J
    clear F3 N3 trip bare eos edr
    obtain ⟨hh₁, g1, d1, tk1, os1⟩ := s'
    obtain ⟨F, ⟨p, q, r, trip, N⟩, bare, htk, eos, edr⟩ := M'
    dsimp only [List.cons_append, List.nil_append, mL, mK, mR, mP, mA] at F N htk bare eos edr ⊢
    walk_at "m go"
    walk1
    walk_at "m go"
    rename Fr h₀ _ _ _ => Fa
    rename News h₀ _ _ _ => Na
    refine eqLists (Na.isList (.tail _ (.tail _ (.tail _ (.tail _ (.tail _ (.tail _ (.head _)))))))) (Na.isList (.tail _ (.tail _ (.tail _ (.tail _ (.tail _ (.tail _ (.tail _ (.tail _ (.head _)))))))))) hus hrs sr.a7 sr.a7 (by rw [units_deeper, units_caller, cLine_is]; decide) ?_
    rw [show decide (rw = rw) = true from by simp]
    walk_at "m go"
    walk1
    walk_at "m go"
    rename Fr h₀ _ _ _ => Fb
    rename News h₀ _ _ _ => Nb
    refine eqLists (Nb.isList (.tail _ (.tail _ (.tail _ (.head _))))) (Nb.isList (.tail _ (.tail _ (.tail _ (.tail _ (.tail _ (.tail _ (.tail _ (.head _))))))))) huy hos so.a7 so.a7 (by rw [units_deeper, units_caller, cLine_is]; decide) ?_
    rw [show decide (ow = ow) = true from by simp]
    try walk_at "m go"
    rename Fr h₀ _ _ _ => Fc
    rename News h₀ _ _ _ => Nc
    exact ⟨rfl, _, ⟨Fc, ⟨p, q, r, trip, newsSub Nc (.cons _ (.cons _ (.cons _ (.cons _ (.cons _ (.cons _ (.cons _ (.cons _ (.cons _ (.refl _))))))))))⟩, bare, by first | assumption | exact Nat.succ_pos _, eos, edr⟩⟩
  case turn =>
    clear F3 N3 trip bare eos edr
    intro i v m₁ s₁ E dd sl hi J M₁
    obtain ⟨ol, rfl⟩ := J
    obtain ⟨hh₁, g1, d1, tk1, os1⟩ := s₁
    obtain ⟨F, ⟨p, q, r, trip, N⟩, bare, htk, eos, edr⟩ := M₁
    rcases i with _ | _ | _ | i
    · obtain rfl : Value.ref y = v := Option.some.inj hi
      dsimp only [List.cons_append, List.nil_append, mL, mK, mR, mP, mA] at F N htk bare eos edr ⊢
      walk_at "m go"
      rename Fr h₀ _ _ _ => Fa
      rename News h₀ _ _ _ => Na
      refine joinP_spec (cgAt 10 C0 Fa Na trip bare (by first | assumption | exact Nat.succ_pos _) rfl) (ptrNews Na hus (.tail _ (.tail _ (.tail _ (.tail _ (.tail _ (.head _)))))) (.tail _ (.tail _ (.tail _ (.tail _ (.tail _ (.tail _ (.head _))))))) (.tail _ (.tail _ (.tail _ (.tail _ (.tail _ (.tail _ (.tail _ (.head _))))))))) (ptrNews Na huy (.tail _ (.tail _ (.head _))) (.tail _ (.tail _ (.tail _ (.head _)))) (.tail _ (.tail _ (.tail _ (.tail _ (.head _)))))) (by rw [units_deeper, units_caller, cLine_is]; decide) (by simp only [depth_deeper, depth_caller]; decide) rfl hpro (fun z s1 K1 hz => ?_)
      obtain ⟨h19, g19, tk19, p, q, r, rfl, F19, N19, trip, bare, htk19⟩ := afterT 10 K1 Fa Na hn0 trip rfl rfl
      obtain ⟨dz, lz, uz, cz, tkz, nz, hsz, huz, N20⟩ := newsPtr (frHid Fa hn0 hL) N19 hz
      clear K1 Fa Na N19 hz
      dsimp only [List.take, List.cons_append, List.nil_append] at N20
      try dsimp only
      walk_at "m go"
      walk1
      walk_at "m go"
      rename Fr h₀ _ _ _ => Fc
      rename News h₀ _ _ _ => Nc
      refine add_lists (vs := rs) (ws := os) Fc Nc (Nc.isList (.tail _ (.tail _ (.tail _ (.tail _ (.tail _ (.tail _ (.tail _ (.tail _ (.tail _ (.tail _ (.tail _ (.tail _ (.head _)))))))))))))) (Nc.isList (.tail _ (.tail _ (.tail _ (.tail _ (.tail _ (.tail _ (.tail _ (.tail _ (.tail _ (.tail _ (.tail _ (.head _))))))))))))) (fun h7 F7 N7 => ?_) (by rw [hrs.length, hos.length, sizeLine_eq]; omega)
      try dsimp only
      refine neLists (N7.isList (.tail _ (.tail _ (.tail _ (.head _))))) (N7.isList (.head _)) huz (hrs.append hos) a7 a7 (by rw [units_deeper, units_caller, cLine_is]; decide) ?_
      rw [show (!decide (rw ++ ow = rw ++ ow)) = false from by simp]
      clear Fc Nc
      walk_at "m go"
      rename Fr h₀ _ _ _ => F9
      rename News h₀ _ _ _ => N9
      exact ⟨rfl, _, ⟨_, mL_eq (ol := ol)⟩, ⟨F9, ⟨p, q, r, trip, newsSub N9 (.cons _ (.cons _ (.cons _ (.cons _ (.refl _)))))⟩, bare, by first | assumption | exact Nat.succ_pos _, eos, edr⟩⟩

    · obtain rfl : Value.str (S (pathOf ow)) tq = v := Option.some.inj hi
      dsimp only [List.cons_append, List.nil_append, mL, mK, mR, mP, mA] at F N htk bare eos edr ⊢
      walk_at "m go"
      rename Fr h₀ _ _ _ => Fa
      rename News h₀ _ _ _ => Na
      refine joinT_spec (cgAt 10 C0 Fa Na trip bare (by first | assumption | exact Nat.succ_pos _) rfl) (ptrNews Na hus (.tail _ (.tail _ (.tail _ (.tail _ (.tail _ (.head _)))))) (.tail _ (.tail _ (.tail _ (.tail _ (.tail _ (.tail _ (.head _))))))) (.tail _ (.tail _ (.tail _ (.tail _ (.tail _ (.tail _ (.tail _ (.head _))))))))) (valid_pathOf ow) (toksOf_pathOf ow) hpo (by rw [units_deeper, units_caller, cLine_is]; decide) (by simp only [depth_deeper, depth_caller]; decide) rfl hpro (fun z s1 K1 hz => ?_)
      obtain ⟨h19, g19, tk19, p, q, r, rfl, F19, N19, trip, bare, htk19⟩ := afterT 10 K1 Fa Na hn0 trip rfl rfl
      obtain ⟨dz, lz, uz, cz, tkz, nz, hsz, huz, N20⟩ := newsPtr (frHid Fa hn0 hL) N19 hz
      clear K1 Fa Na N19 hz
      dsimp only [List.take, List.cons_append, List.nil_append] at N20
      try dsimp only
      walk_at "m go"
      walk1
      walk_at "m go"
      rename Fr h₀ _ _ _ => Fc
      rename News h₀ _ _ _ => Nc
      refine add_lists (vs := rs) (ws := os) Fc Nc (Nc.isList (.tail _ (.tail _ (.tail _ (.tail _ (.tail _ (.tail _ (.tail _ (.tail _ (.tail _ (.tail _ (.tail _ (.tail _ (.head _)))))))))))))) (Nc.isList (.tail _ (.tail _ (.tail _ (.tail _ (.tail _ (.tail _ (.tail _ (.tail _ (.tail _ (.tail _ (.tail _ (.head _))))))))))))) (fun h7 F7 N7 => ?_) (by rw [hrs.length, hos.length, sizeLine_eq]; omega)
      try dsimp only
      refine neLists (N7.isList (.tail _ (.tail _ (.tail _ (.head _))))) (N7.isList (.head _)) huz (hrs.append hos) a7 a7 (by rw [units_deeper, units_caller, cLine_is]; decide) ?_
      rw [show (!decide (rw ++ ow = rw ++ ow)) = false from by simp]
      clear Fc Nc
      walk_at "m go"
      rename Fr h₀ _ _ _ => F9
      rename News h₀ _ _ _ => N9
      exact ⟨rfl, _, ⟨_, mL_eq (ol := ol)⟩, ⟨F9, ⟨p, q, r, trip, newsSub N9 (.cons _ (.cons _ (.cons _ (.cons _ (.refl _)))))⟩, bare, by first | assumption | exact Nat.succ_pos _, eos, edr⟩⟩

    · obtain rfl : Value.ref D2 = v := Option.some.inj hi
      dsimp only [List.cons_append, List.nil_append, mL, mK, mR, mP, mA] at F N htk bare eos edr ⊢
      walk_at "m go"
      rename Fr h₀ _ _ _ => Fa
      rename News h₀ _ _ _ => Na
      refine joinL_spec (cgAt 10 C0 Fa Na trip bare (by first | assumption | exact Nat.succ_pos _) rfl) (ptrNews Na hus (.tail _ (.tail _ (.tail _ (.tail _ (.tail _ (.head _)))))) (.tail _ (.tail _ (.tail _ (.tail _ (.tail _ (.tail _ (.head _))))))) (.tail _ (.tail _ (.tail _ (.tail _ (.tail _ (.tail _ (.tail _ (.head _))))))))) (Na.isList (.tail _ (.tail _ (.tail _ (.tail _ (.tail _ (.tail _ (.tail _ (.tail _ (.head _)))))))))) hos (by rw [units_deeper, units_caller, cLine_is]; decide) (by simp only [depth_deeper, depth_caller]; decide) rfl hpro (fun z s1 K1 hz => ?_)
      obtain ⟨h19, g19, tk19, p, q, r, rfl, F19, N19, trip, bare, htk19⟩ := afterT 10 K1 Fa Na hn0 trip rfl rfl
      obtain ⟨dz, lz, uz, cz, tkz, nz, hsz, huz, N20⟩ := newsPtr (frHid Fa hn0 hL) N19 hz
      clear K1 Fa Na N19 hz
      dsimp only [List.take, List.cons_append, List.nil_append] at N20
      try dsimp only
      walk_at "m go"
      walk1
      walk_at "m go"
      rename Fr h₀ _ _ _ => Fc
      rename News h₀ _ _ _ => Nc
      refine add_lists (vs := rs) (ws := os) Fc Nc (Nc.isList (.tail _ (.tail _ (.tail _ (.tail _ (.tail _ (.tail _ (.tail _ (.tail _ (.tail _ (.tail _ (.tail _ (.tail _ (.head _)))))))))))))) (Nc.isList (.tail _ (.tail _ (.tail _ (.tail _ (.tail _ (.tail _ (.tail _ (.tail _ (.tail _ (.tail _ (.tail _ (.head _))))))))))))) (fun h7 F7 N7 => ?_) (by rw [hrs.length, hos.length, sizeLine_eq]; omega)
      try dsimp only
      refine neLists (N7.isList (.tail _ (.tail _ (.tail _ (.head _))))) (N7.isList (.head _)) huz (hrs.append hos) a7 a7 (by rw [units_deeper, units_caller, cLine_is]; decide) ?_
      rw [show (!decide (rw ++ ow = rw ++ ow)) = false from by simp]
      clear Fc Nc
      walk_at "m go"
      rename Fr h₀ _ _ _ => F9
      rename News h₀ _ _ _ => N9
      exact ⟨rfl, _, ⟨_, mL_eq (ol := ol)⟩, ⟨F9, ⟨p, q, r, trip, newsSub N9 (.cons _ (.cons _ (.cons _ (.cons _ (.refl _)))))⟩, bare, by first | assumption | exact Nat.succ_pos _, eos, edr⟩⟩

    · exact absurd hi (by simp)
end
end Mine

end
section
open PySem PySem.W PySem.Calls PyProof.Rows
open PySem.Builtin PySem.Builtin.Str
set_option Elab.async false
set_option maxRecDepth 100000
set_option maxHeartbeats 8000000
namespace Mine
theorem fill_it31 (P : (OpenLaw → (Params → Frag) → Prop)) (h : P PySem.Challenge.rw_jh0011_01 hd.heap_39) : P PySem.Challenge.rw_jh0011_01 hd.heap_39 := by
  k_fill
  exact h
local macro_rules | `(tactic| walk_at "m go") => `(tactic| repeat (first | ((with_reducible show wpAny _ _ _ _ _ _); (fail_if_success (with_reducible show wpAny _ _ (PySem.exec (Stmt.For _ _ _ _ _) _) _ _ _)); (fail_if_success (with_reducible show wpAny _ _ (PySem.truthy (Value.ref _)) _ _ _)); (fail_if_success (with_reducible show wpAny _ _ (PySem.subscriptTail _ _ (Value.ref _) _) _ _ _)); (fail_if_success (with_reducible show wpAny _ _ (PySem.eval (Expr.ListComp _ _ _ _) _) _ _ _)); (fail_if_success (with_reducible show wpAny _ _ (PySem.call (Value.builtin "str.join") _ _) _ _ _)); (fail_if_success (with_reducible show wpAny _ _ (PySem.call (Value.ref _) _ _) _ _ _)); (fail_if_success (with_reducible show wpAny _ _ (PySem.compareOp _ (Value.ref _) (Value.ref _)) _ _ _)); (fail_if_success (with_reducible show wpAny _ _ (PySem.call (Value.type _) _ _) _ _ _)); (fail_if_success (with_reducible show wpAny _ _ (PySem.binaryOp _ (Value.ref _) (Value.ref _)) _ _ _)); (fail_if_success (with_reducible show wpAny _ _ (PySem.exec (Stmt.Try _ _ _ _ _) _) _ _ _)); (fail_if_success (with_reducible show wpAny _ _ (PySem.getAttr (Value.ref _) _ _) _ _ _)); (fail_if_success (with_reducible show wpAny _ _ (PySem.eval (Expr.GeneratorExp _ _ _ _) _) _ _ _)); (fail_if_success (with_reducible show wpAny _ _ (PySem.exec (Stmt.Assign _ (Expr.ListComp _ _ _ _) _) _) _ _ _)); walk1; (try dsimp only)) | (with_reducible refine And.intro (Frag.In.keeps (by assumption) (Fr.keep (by assumption))) ?_) | (with_reducible refine split_not ?_) | (with_reducible refine ite_tt ?_) | (with_reducible refine ite_ff ?_)))
local macro_rules | `(tactic| walk_at "execs cons") => `(tactic| (refine execs_consG ?hp ?_; (case hp => first | assumption | exact Nat.succ_pos _ | exact Nat.lt_of_lt_of_le (by assumption) (Nat.le_add_right _ _) | omega); intro tk' htk'))
local macro_rules | `(tactic| walk_at "execs nil") => `(tactic| refine wpAny_execs_nil ?_)
section
variable {w : World} {s : Shared} {loose : List Str} {mg mb : Str → Option Value}
theorem law_code {a : Addr} {vs : List Value} {ns : List Int} {R : Result → Shared → Prop} (cx : Cx w loose mg mb s.heap) (ct : Tabs3 s.heap) (cb : AllBare s.gens) (I : s.heap.IsList a vs.toArray) (hi : IntsAre vs ns) (hz : vs.length ≤ 100000)
    (h : ∀ s', KeepsT s s' → R (.ok (.ret (.bool true))) s') : codeAny (model prog w) callerA (.call (.ref 272) ⟨[.ref a], []⟩) R s := by
  have C0 := cx.hid ct
  have I0 := hidList I ct
  have hn0 : ∀ b ∈ tabs, (hid s.heap).get? b = none := fun b hb => hid_none hb
  have hs0 := hid_size s.heap
  have hk0 : ∀ b o, (hid s.heap).get? b = some o → s.heap.get? b = some o := fun b o e => of_hideAll _ e
  have hh0 : ∀ b o, b ∉ tabs → s.heap.get? b = some o → (hid s.heap).get? b = some o := fun b o hb e => hideAll_get _ e hb
  obtain ⟨p, q, r, trip, e1, e2, e3⟩ := ct
  generalize hid s.heap = h₀ at *
  have X := C0.X
  have T := C0.T
  refine' enterC (h₀ := h₀) (news := tab3 p q r) (binds := [(Str.ofString "script", .ref a)]) X T.nolimit hk0 ?h0 ?hn ?h1 ?h2 ?hr ?h3 ?h4 ?_ ?h5 ?h6 ?h7 ?h8
  case h1 => k_is
  case h2 => k_is
  case h3 => exact BindsTo.of_eq rfl
  case h4 => exact locs rfl
  case h5 => decide
  case h6 => exact rfl
  case h7 => exact rfl
  case h8 => exact rfl
  case h0 => exact Nat.le_of_eq hs0
  case hr => rw [depth_caller]; decide
  case hn =>
    intro y hy
    rcases List.mem_cons.mp hy with rfl | hy
    · exact ⟨e1, hn0 _ (.head _)⟩
    rcases List.mem_cons.mp hy with rfl | hy
    · exact ⟨e2, hn0 _ (.tail _ (.head _))⟩
    rw [List.mem_singleton.mp hy]
    exact ⟨e3, hn0 _ (.tail _ (.tail _ (.head _)))⟩
  intro h₁ F N
  have M0 : Mid h₀ s.heap.objs.size (fun y => [(Str.ofString "script", Value.ref a)].reverse.lookup y) [] s { s with heap := h₁, toks := s.toks + [(Str.ofString "script", Value.ref a)].length } := ⟨F, ⟨p, q, r, trip, N⟩, cb, Nat.succ_pos _, rfl, rfl⟩
  clear F N
  refine execs_cut 2 (phaseA1 (by k_is) C0 hn0 I0 hi hz M0) (fun s1 P1 => ?_)
  refine execs_cut (mid := fun s' => ∃ tt t v1 v2 v3, Mid h₀ s.heap.objs.size (mP a tt t v1 v2 v3) [] s s') 3 ?_ (fun s2 P2 => ?_)
  · obtain ⟨tt, t, h42, h7, ⟨hnv, M⟩ | ⟨hv, b, us, c, hus, M⟩⟩ := P1
    · exact phaseBad (by k_is) C0 h42 hnv M
    · exact phaseGood (by k_is) C0 h42 h7 hv hn0 hus M
  obtain ⟨tt, t, v1, v2, v3, M2⟩ := P2
  rw [List.drop_drop]
  refine execs_cut 2 (phaseB1 (by k_is) C0 I0 hi hz rfl M2) (fun s3 P3 => ?_)
  obtain ⟨D1, D2, rs, os, c1, c2, hrs, hos, M3⟩ := P3
  rw [List.drop_drop]
  refine execs_cut 2 (phaseB2 (by k_is) C0 hn0 hrs hos M3) (fun s4 P4 => ?_)
  obtain ⟨x, dx, lx, us, cu, tku, n, hs, hus, M4⟩ := P4
  rw [List.drop_drop]
  refine execs_cut 1 (phaseB3 (by k_is) C0 hn0 I0 hi hz hrs M4) (fun s5 P5 => ?_)
  obtain ⟨nv, tv, hnv, M5⟩ := P5
  rw [List.drop_drop]
  refine execs_cut 1 (phaseB4 (by k_is) C0 hn0 hnv hrs M5) (fun s6 M6 => ?_)
  rw [List.drop_drop]
  refine execs_cut 1 (phaseC (by k_is) C0 hn0 hus hrs hos M6) (fun s7 P7 => ?_)
  obtain ⟨y, dy, ly, uy, cy, tky, ny, hsy, kv, huy, M7⟩ := P7
  rw [List.drop_drop]
  refine wpAny_mono (phaseD (by k_is) C0 hn0 hus huy hrs hos M7) (fun f s8 h8 => ?_) fun _ _ x => x
  obtain ⟨rfl, m', ⟨F, ⟨p', q', r', trip', N⟩, bare, htk, eos, edr⟩⟩ := h8
  exact h s8 (keepsTfin (rest := []) hh0 F N trip' bare htk eos edr)
end
end Mine

end
section
open PySem PySem.W PySem.Calls PyProof.Rows
open PySem.Builtin PySem.Builtin.Str
set_option Elab.async false
set_option maxRecDepth 100000
set_option maxHeartbeats 8000000
namespace Mine
theorem law0 : PySem.Challenge.rw_jh0011_01.Holds := by
  refine hd ?_
  k_fill
  intro w s₀ s₁ mg mb G Y fa o pm cd doc dV kV ho hd' hcd hD hmg hg args vals as hpre hlay hrd hwl hlo
  have KX := km_in_of Y
  have hT8 := km_tabs_of Y
  have X := (Ground.X G).1
  have V := (Ground.X G).2
  refine Ground.open G ?_
  intro T B D TE TW
  try (refine guard_noD D (by decide +kernel) ?_; clear D)
  have hfa : fa = 272 := by
    have e := mg_of KX T.g (n := Str.ofString "law") (v := .ref 272) (by k_is)
    rw [show mg (Str.ofString "law") = some (.ref fa) from hmg] at e
    exact Value.ref.inj (Option.some.inj e)
  clear hmg
  wrow_args hpre hlay hrd hwl hlo
  first | refine callC_kw (enter_call ?_) | refine enter_call ?_
  rename IntsAre _ _ => hI
  rename Heap.IsList _ _ _ => hLi
  have hlen := hI.length
  obtain ⟨bm, ob, M⟩ := bmod_of_top T
  have ht : Tabs3 s₁.heap := ⟨#[], #[], #[], ⟨trivial, trivial, trivial⟩, hT8 176 (by decide), hT8 196 (by decide), hT8 239 (by decide)⟩
  have TR : TopRead Mine.view0 _ mg mb s₁.heap := topRead_of T
  subst hfa
  refine law_code (loose := _) (mg := mg) (mb := mb) ⟨KX, TR, bm, ob, M⟩ ht (AllBare.of_eq hg) hLi hI (by omega) (fun s' K => ?_)
  have grown : ∀ b o, b ∈ tabs → s₁.heap.get? b = some o → isCodeTable s₁.heap b ∧ o = tabObj #[] ∧ ∃ ps, s'.heap.get? b = some (tabObj ps) := by
    intro b o hb e
    obtain ⟨p, q, r, _, h1, h2, h3⟩ := K.tabs
    have h0 := hT8 b hb
    rw [h0] at e
    have hb' := hb
    rcases List.mem_cons.mp hb with rfl | hb
    · exact ⟨((codeHd_of_K KX (hd1 w)).tab h0).isCodeTable, (Option.some.inj e).symm, p, h1⟩
    rcases List.mem_cons.mp hb with rfl | hb
    · exact ⟨((codeHd_of_K KX (hd2 w)).tab h0).isCodeTable, (Option.some.inj e).symm, q, h2⟩
    obtain rfl := List.mem_singleton.mp hb
    exact ⟨((codeHd_of_K KX (hd3 w)).tab h0).isCodeTable, (Option.some.inj e).symm, r, h3⟩
  refine ⟨.inl ⟨_, .bool true, [], rfl, fun _ => rfl, ReadsW.bool true, ?_, fun _ => ⟨List.nodup_nil, fun _ hm => (nomatch hm)⟩⟩, ⟨fun b o e => ?_, fun b o e => ?_⟩, K.os, K.bare⟩
  · first | with_unfolding_all rfl | kernel_rfl | (simp [ClaimW.post]; done) | decide
  · by_cases hb : b ∈ tabs
    · obtain ⟨hc, rfl, ps, hP⟩ := grown b o hb e
      exact .inr (.inl ⟨hc, rfl, #[], ps, rfl, by rw [Array.empty_append]; exact hP⟩)
    · exact .inl (K.keep b o hb e)
  · by_cases hb : b ∈ tabs
    · obtain ⟨_, _, ps, hP⟩ := grown b o hb e
      exact ⟨_, hP⟩
    · exact ⟨o, K.keep b o hb e⟩
end Mine

end
theorem PySem.Challenge.cw_jh0011_01_holds : PySem.Challenge.rw_jh0011_01.Holds := by
  exact Mine.law0
