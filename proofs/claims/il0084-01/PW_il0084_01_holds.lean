import PyProof.Rows.All
import Wide.All
import OpenK.AllK
import Wide.FinOn
import PySem.Challenge.RW_il0084_01
set_option Elab.async false

section
open PySem PySem.W PyProof.Rows
set_option Elab.async false
set_option maxRecDepth 100000
set_option maxHeartbeats 0
namespace Mine
def view1 : Program := view PySem.Challenge.rw_il0084_01.row.toRowW.prog [0, 2, 3, 4, 5, 6, 7, 9, 11, 13, 14, 16, 18, 20, 21, 22, 23, 24, 25, 27, 28, 29, 30, 31, 32, 33, 34, 35, 36, 37, 38, 39, 40, 41, 42, 43, 44, 45, 46, 47, 48, 50, 51, 52, 53, 54]
def fmTable : WData :=
  .tuple [.tuple [.tuple [.int 40960, .str ⟨#[108]⟩], .tuple [.int 49152, .str ⟨#[115]⟩], .tuple [.int 32768, .str ⟨#[45]⟩], .tuple [.int 24576, .str ⟨#[98]⟩], .tuple [.int 16384, .str ⟨#[100]⟩], .tuple [.int 8192, .str ⟨#[99]⟩], .tuple [.int 4096, .str ⟨#[112]⟩]],
    .tuple [.tuple [.int 256, .str ⟨#[114]⟩]], .tuple [.tuple [.int 128, .str ⟨#[119]⟩]], .tuple [.tuple [.int 2112, .str ⟨#[115]⟩], .tuple [.int 2048, .str ⟨#[83]⟩], .tuple [.int 64, .str ⟨#[120]⟩]],
    .tuple [.tuple [.int 32, .str ⟨#[114]⟩]], .tuple [.tuple [.int 16, .str ⟨#[119]⟩]], .tuple [.tuple [.int 1032, .str ⟨#[115]⟩], .tuple [.int 1024, .str ⟨#[83]⟩], .tuple [.int 8, .str ⟨#[120]⟩]],
    .tuple [.tuple [.int 4, .str ⟨#[114]⟩]], .tuple [.tuple [.int 2, .str ⟨#[119]⟩]], .tuple [.tuple [.int 513, .str ⟨#[116]⟩], .tuple [.int 512, .str ⟨#[84]⟩], .tuple [.int 1, .str ⟨#[120]⟩]]]
abbrev lv1 : List (PySem.Str × WData) := [(PySem.Str.ofString "_filemode_table", fmTable)]
theorem and_true {a b : Bool} (x : a = true) (y : b = true) : (a && b) = true := by rw [x, y]; rfl
theorem well_said : PySem.Challenge.rw_il0084_01.wellSaid = true := by
  unfold OpenLaw.wellSaid OpenRow.wellSaid OpenRow.partSaid looksOpen
  repeat' (with_reducible refine and_true ?_ ?_)
  all_goals (
    (try rw [PySem.W.Fast.te8377067652309620493])
    (try rw [PySem.W.Fast.te8326940854005059898])
    (try rw [PySem.W.Fast.te17119622794617984870])
    (try rw [PySem.W.Fast.te12862048085361865435])
    (try rw [PySem.W.Fast.te11788848310118352699])
    (try rw [PySem.W.Fast.te9558739934217749035])
    (try rw [PySem.W.Fast.te18344453789297297638])
    (try rw [PySem.W.Fast.te13582783067957832011])
    (try rw [PySem.W.Fast.te6984425678791042302])
    (try rw [PySem.W.Fast.te16286561074155671207])
    (try rw [PySem.W.Fast.te14412699480532031325])
    (try rw [PySem.W.Fast.te482687673346738481])
    (try rw [PySem.W.Fast.te5923862056798008813])
    (try rw [PySem.W.Fast.named_eq])
    decide +kernel)
theorem left_pair {p q : Program} {loose : List PySem.Str} {Xt : Shared → Bool} {α : Type} {Yf : Shared → α} {Ya : World → α} {N : Nat}
    (h1 : ∀ w, (openEnds treeTable p w N).map (fun s => openSeen q loose (importedModules p.main.body) Xt true s) = some (openGood q loose)) (h2 : ∀ w, (openEnds treeTable p w N).map Yf = some (Ya w)) : LeftO p q loose Xt Yf Ya N := fun w => by
  have a := h1 w
  have b := h2 w
  cases e : openEnds treeTable p w N with
  | none => rw [e] at b; cases b
  | some s =>
    rw [e] at a b
    rw [Option.map_some, Option.some.injEq] at a b
    rw [Option.map_some, a, b]
theorem seen_1 (w : World) : (openEnds treeTable (OpenRow.toRowW (OpenLaw.row PySem.Challenge.rw_il0084_01)).prog w 3460).map (fun s => openSeen view1 [PySem.Str.ofString "_filemode_table"] (importedModules (OpenRow.toRowW (OpenLaw.row PySem.Challenge.rw_il0084_01)).prog.main.body) (fun s => xlAt view1 lv1 s && recOk (RowW.records (OpenRow.toRowW (OpenLaw.row PySem.Challenge.rw_il0084_01))) s) true s) = some (openGood view1 [PySem.Str.ofString "_filemode_table"]) := by
  unfold openEnds fencedOpening topFrom
  rw [PySem.W.Fast.te14082659384304107361, PySem.W.Fast.te14364793385576792824, PySem.W.Fast.te4187177175401517315]
  kernel_rfl
local macro_rules | `(tactic| o_law) => `(tactic| refine holds_law Mine.well_said fun _ => ?_)
local macro_rules | `(tactic| o_head $H) => `(tactic| (refine holds_open (q := Mine.view1) (loose := [PySem.Str.ofString "_filemode_table"]) (Xt := fun s => xlAt Mine.view1 Mine.lv1 s && recOk (RowW.records (OpenRow.toRowW (OpenLaw.row PySem.Challenge.rw_il0084_01))) s) (XP := XL Mine.view1 Mine.lv1) (Yf := Hook.obs $H) (Ya := Hook.val $H) (YP := Hook.says $H) (N := 3460) ?hl (Hook.of $H) (Hook.keeps $H) (fun s e => xl_of s (Bool.and_eq_true_iff.mp e).1) XL.keeps (by rfl) (by rfl) (by rfl) (fun s e => recFacts_of (Bool.and_eq_true_iff.mp e).2) (by rfl) (by first | assumption | decide +kernel) (by decide +kernel) ⟨rfl, rfl, rfl, rfl, rfl, by decide +kernel⟩ ?hw ?hc; (case hl => (refine Mine.left_pair Mine.seen_1 ?_; intro w; unfold openEnds fencedOpening topFrom; rw [PySem.W.Fast.te14082659384304107361, PySem.W.Fast.te14364793385576792824]; kernel_rfl))))
open_top hd for PySem.Challenge.rw_il0084_01
theorem top_off : True := by
  w_top off
  trivial
end Mine
end

section
open PySem PySem.W PyProof.Rows
set_option Elab.async false
namespace Mine

/-- a text of its signs -/
def mk (l : List Nat) : PySem.Str := ⟨l.toArray⟩
theorem mk_len (l : List Nat) : (mk l).length = l.length := by simp [mk, Str.length]
theorem mk_toList (l : List Nat) : (mk l).cps.toList = l := by simp [mk]
theorem mk_of (x : PySem.Str) : mk x.cps.toList = x := by cases x; simp [mk]
theorem mk_append (a b : List Nat) : mk a ++ mk b = mk (a ++ b) := Str.ext' (by simp [mk, Str.cps_append])
theorem mk_inj {a b : List Nat} (h : mk a = mk b) : a = b := by
  have := congrArg (fun x => x.cps.toList) h
  simpa [mk] using this
theorem mk_beq (a b : List Nat) : (mk a == mk b) = decide (a = b) := by
  rw [Bool.eq_iff_iff, beq_iff_eq, decide_eq_true_eq]
  exact ⟨mk_inj, fun h => by rw [h]⟩

/-- every k written as z -/
def repL (k : Nat) (z l : List Nat) : List Nat := l.flatMap fun j => if j = k then z else [j]
theorem repL_append (k : Nat) (z a b : List Nat) : repL k z (a ++ b) = repL k z a ++ repL k z b := by simp [repL]
theorem repL_free {k : Nat} {z : List Nat} : ∀ {l : List Nat}, k ∉ l → repL k z l = l
  | [], _ => rfl
  | j :: r, h => by
    have h1 : ¬ j = k := fun e => h (e ▸ List.mem_cons_self ..)
    have h2 : k ∉ r := fun m => h (List.mem_cons_of_mem _ m)
    have := repL_free (z := z) h2
    simp only [repL, List.flatMap_cons, if_neg h1] at this ⊢
    rw [this]; rfl
theorem repL_one (k : Nat) (z : List Nat) : repL k z [k] = z := by simp [repL]
theorem repL_join (k : Nat) (z : List Nat) : ∀ parts : List PySem.Str, (∀ p ∈ parts, k ∉ p.cps.toList) → repL k z (Str.join ⟨#[k]⟩ parts).cps.toList = (Str.join (mk z) parts).cps.toList
  | [], _ => rfl
  | [p], h => repL_free (h p (List.mem_singleton.mpr rfl))
  | p :: q :: r, h => by
    have ih := repL_join k z (q :: r) fun a ha => h a (List.mem_cons_of_mem _ ha)
    show repL k z (p ++ ⟨#[k]⟩ ++ Str.join ⟨#[k]⟩ (q :: r)).cps.toList = (p ++ mk z ++ Str.join (mk z) (q :: r)).cps.toList
    simp only [Str.cps_append, Array.toList_append]
    rw [repL_append, repL_append, ih, repL_free (h p (List.mem_cons_self ..))]
    show p.cps.toList ++ repL k z [k] ++ _ = _
    rw [repL_one, mk_toList]
theorem replace_mk (k : Nat) (z l : List Nat) : Txt.replace (mk l) ⟨#[k]⟩ (mk z) = mk (repL k z l) := by
  rw [StrLaws.replace_one]
  have h := repL_join k z _ (StrLaws.split_free (mk l) k)
  rw [StrLaws.join_split, mk_toList] at h
  rw [h, mk_of]
theorem repL_len (k : Nat) (z l : List Nat) (n : Nat) (hz : z.length ≤ n) (hn : 1 ≤ n) : (repL k z l).length ≤ l.length * n := by
  induction l with
  | nil => simp [repL]
  | cons j r ih =>
    have e : repL k z (j :: r) = (if j = k then z else [j]) ++ repL k z r := by simp [repL]
    rw [e, List.length_append, List.length_cons, Nat.succ_mul]
    split <;> simp <;> omega
theorem notin_mk {k : Nat} {l : List Nat} (h : (Builtin.Str.occurrences (mk l) ⟨#[k]⟩ 0 (mk l).length 1).isEmpty = true) : k ∉ l := by
  have e := StrLaws.found_one (mk l) k
  rw [h, mk_toList] at e
  intro hm
  simp [hm] at e

/-- a chain of replacements, the first first -/
def escL (ps : List (Nat × List Nat)) (l : List Nat) : List Nat := ps.foldl (fun l p => repL p.1 p.2 l) l
theorem repL_flat (k : Nat) (z : List Nat) (f : Nat → List Nat) : ∀ l : List Nat, repL k z (l.flatMap f) = l.flatMap fun c => repL k z (f c)
  | [] => rfl
  | c :: r => by rw [List.flatMap_cons, repL_append, repL_flat k z f r, List.flatMap_cons]
theorem escL_flatMap (ps : List (Nat × List Nat)) : ∀ (f : Nat → List Nat) (l : List Nat), escL ps (l.flatMap f) = l.flatMap fun c => escL ps (f c) := by
  induction ps with
  | nil => intro f l; rfl
  | cons p r ih =>
    intro f l
    show escL r (repL p.1 p.2 (l.flatMap f)) = _
    rw [repL_flat, ih]; rfl
theorem escL_each (ps : List (Nat × List Nat)) (l : List Nat) : escL ps l = l.flatMap fun c => escL ps [c] := by
  have h := escL_flatMap ps (fun c => [c]) l
  rw [List.flatMap_singleton'] at h
  exact h
theorem escL_append (ps : List (Nat × List Nat)) (a b : List Nat) : escL ps (a ++ b) = escL ps a ++ escL ps b := by
  rw [escL_each ps (a ++ b), escL_each ps a, escL_each ps b, List.flatMap_append]
theorem escL_free {ps : List (Nat × List Nat)} : ∀ {l : List Nat}, (∀ p ∈ ps, p.1 ∉ l) → escL ps l = l := by
  induction ps with
  | nil => intro l _; rfl
  | cons p r ih =>
    intro l h
    show escL r (repL p.1 p.2 l) = l
    rw [repL_free (h p (List.mem_cons_self ..))]
    exact ih fun q hq => h q (List.mem_cons_of_mem _ hq)
theorem flatMap_len (n : Nat) (f : Nat → List Nat) (hf : ∀ c, (f c).length ≤ n) : ∀ l : List Nat, (l.flatMap f).length ≤ n * l.length
  | [] => by simp
  | c :: r => by
    have := flatMap_len n f hf r
    have := hf c
    rw [List.flatMap_cons, List.length_append, List.length_cons, Nat.mul_succ]; omega
theorem escL_len {ps : List (Nat × List Nat)} {n : Nat} (hn : 1 ≤ n) (h : ∀ k ∈ ps.map (·.1), (escL ps [k]).length ≤ n) (l : List Nat) : (escL ps l).length ≤ n * l.length := by
  rw [escL_each]
  refine flatMap_len n _ (fun c => ?_) l
  by_cases hc : c ∈ ps.map (·.1)
  · exact h c hc
  · rw [escL_free fun p hp hm => hc ?_]
    · simpa using hn
    · rw [← List.mem_singleton.mp hm]; exact List.mem_map_of_mem hp

abbrev amp : List Nat := [38, 97, 109, 112, 59]
abbrev lt : List Nat := [38, 108, 116, 59]
abbrev gt : List Nat := [38, 103, 116, 59]
abbrev quot : List Nat := [38, 113, 117, 111, 116, 59]
abbrev d13 : List Nat := [38, 35, 49, 51, 59]
abbrev d10 : List Nat := [38, 35, 49, 48, 59]
abbrev d09 : List Nat := [38, 35, 48, 57, 59]
abbrev xD : List Nat := [38, 35, 120, 68, 59]
abbrev xA : List Nat := [38, 35, 120, 65, 59]
abbrev x9 : List Nat := [38, 35, 120, 57, 59]
/-- the five escapes -/
def psR : List (Nat × List Nat) := [(38, amp), (60, lt), (62, gt)]
def psW : List (Nat × List Nat) := [(38, amp), (60, lt), (62, gt), (34, quot), (13, d13), (10, d10), (9, d09)]
def psX : List (Nat × List Nat) := [(38, amp), (62, gt), (34, quot)]
def psS : List (Nat × List Nat) := [(38, amp), (60, lt), (62, gt), (13, xD)]
def psT : List (Nat × List Nat) := [(38, amp), (60, lt), (34, quot), (9, x9), (10, xA), (13, xD)]
end Mine
end

section
open PySem PySem.W PyProof.Rows
set_option Elab.async false
namespace Mine
theorem slice_from (l : List Nat) (n : Nat) (h : n ≤ l.length) : Txt.slice (mk l) (some (n : Int)) none = mk (l.drop n) := by
  have e := StrLaws.sliceText_from (x := mk l) (i := (n : Int)) ⟨by omega, by rw [mk_toList]; omega⟩
  rw [mk_toList] at e
  refine Eq.trans e ?_
  have e1 : ((n : Int)).toNat = n := by omega
  have e2 : ((l.length : Int) - (n : Int)).toNat = (l.drop n).length := by rw [List.length_drop]; omega
  rw [e1, e2, List.take_length]; rfl
theorem slice_to (l : List Nat) (n : Nat) (h : n ≤ l.length) : Txt.slice (mk l) none (some (n : Int)) = mk (l.take n) := by
  have e := StrLaws.sliceText_to (x := mk l) (j := (n : Int)) ⟨by omega, by rw [mk_toList]; omega⟩
  rw [mk_toList] at e
  refine Eq.trans e ?_
  have e1 : ((n : Int) - 0).toNat = n := by omega
  rw [e1]; rfl
theorem slice_ft (l : List Nat) (a b : Nat) (hab : a ≤ b) (h : b ≤ l.length) : Txt.slice (mk l) (some (a : Int)) (some (b : Int)) = mk ((l.drop a).take (b - a)) := by
  have e := StrLaws.sliceText_nat (mk l) (a := a) (b := b) hab (by rw [mk_len]; exact h)
  rw [mk_toList] at e
  exact e
theorem subAt_mk (l z : List Nat) (i : Nat) : Builtin.Str.subAt (mk l) (mk z) i = decide ((l.drop i).take z.length = z) := by
  rw [StrLaws.subAt_eq, mk_toList, mk_toList, mk_len, Bool.eq_iff_iff, beq_iff_eq, decide_eq_true_eq]
theorem rfind_mk (pre : List Nat) (c : Nat) (last : List Nat) (h : c ∉ last) : Txt.rfind (mk (pre ++ c :: last)) (mk [c]) = (pre.length : Int) := by
  have hat : ∀ i, StrLaws.At (mk (pre ++ c :: last)) (mk [c]) (mk (pre ++ c :: last)).length i ↔ (pre ++ c :: last)[i]? = some c := fun i => by
    have e := StrLaws.subAt_one (mk (pre ++ c :: last)) c i
    rw [mk_toList] at e
    exact e
  have hp : (pre ++ c :: last)[pre.length]? = some c := by simp
  rcases PyProof.Rows.rfind_whole (mk (pre ++ c :: last)) (mk [c]) with ⟨_, hn⟩ | ⟨i, e, hi, hn⟩
  · exact absurd ((hat _).mpr hp) (hn _)
  · rw [e]
    have h1 := (hat i).mp hi
    rcases Nat.lt_trichotomy i pre.length with hl | rfl | hl
    · exact absurd ((hat _).mpr hp) (hn _ hl)
    · rfl
    · exfalso
      rw [List.getElem?_append_right (by omega)] at h1
      obtain ⟨k, hk⟩ : ∃ k, i - pre.length = k + 1 := ⟨i - pre.length - 1, by omega⟩
      rw [hk, List.getElem?_cons_succ] at h1
      exact h (List.mem_of_getElem? h1)
theorem startswith_mk (l : List Nat) (c : Nat) : Txt.startswith (mk l) (mk [c]) = decide (l.head? = some c) := by
  unfold Txt.startswith
  rw [subAt_mk, mk_len, mk_len]
  cases l with
  | nil => simp
  | cons a r => simp
theorem endswith_mk (l : List Nat) (c : Nat) : Txt.endswith (mk l) (mk [c]) = decide (l.getLast? = some c) := by
  unfold Txt.endswith
  rw [subAt_mk, mk_len, mk_len]
  rcases List.eq_nil_or_concat l with rfl | ⟨r, a, rfl⟩
  · simp
  · simp
theorem rstrip_one (pre : List Nat) (c : Nat) (h : pre.getLast? ≠ some c) : Txt.rstripChars (mk (pre ++ [c])) (mk [c]) = mk pre := by
  have hc : (mk [c]).cps.contains c = true := by simp [mk]
  have htw : ((pre ++ [c]).reverse.takeWhile (mk [c]).cps.contains) = [c] := by
    rw [List.reverse_append, List.reverse_cons, List.reverse_nil, List.nil_append, List.singleton_append, List.takeWhile_cons, if_pos hc]
    rcases List.eq_nil_or_concat pre with rfl | ⟨r, a, rfl⟩
    · rfl
    · have ha : ¬ (a = c) := fun e => h (by simp [e])
      have : (mk [c]).cps.contains a = false := by simp [mk, ha]
      rw [List.concat_eq_append, List.reverse_append, List.reverse_cons, List.reverse_nil, List.nil_append, List.singleton_append, List.takeWhile_cons, this]
      simp
  have hhi : stripHi (mk [c]).cps.contains true (mk (pre ++ [c])) 0 = pre.length := by
    simp only [stripHi, if_true, mk_toList, List.drop_zero, htw, mk_len, List.length_append, List.length_cons, List.length_nil]
    omega
  have hlo : stripLo (mk [c]).cps.contains false (mk (pre ++ [c])) = 0 := rfl
  unfold Txt.rstripChars Txt.stripBy stripSame PySem.stripped
  rw [hlo, hhi, mk_len]
  rw [if_neg (by simp)]
  apply Str.ext'
  rw [← Array.toList_inj, StrLaws.strSub_toList, mk_toList, mk_toList]
  simp

/-- parts joined by a slash -/
def joinL : List (List Nat) → List Nat
  | [] => []
  | [x] => x
  | x :: y :: r => x ++ 47 :: joinL (y :: r)
theorem join_mk : ∀ parts : List (List Nat), Txt.join (mk [47]) (parts.map mk) = mk (joinL parts)
  | [] => rfl
  | [x] => by
    unfold Txt.join
    rw [StrLaws.glued_eq_join]; rfl
  | x :: y :: r => by
    have ih := join_mk (y :: r)
    unfold Txt.join at ih ⊢
    rw [StrLaws.glued_eq_join] at ih ⊢
    show mk x ++ mk [47] ++ Str.join (mk [47]) ((y :: r).map mk) = _
    rw [ih, mk_append, mk_append, List.append_assoc]; rfl
theorem joinL_tw (x : List Nat) (r : List (List Nat)) (h : 47 ∉ x) : (joinL (x :: r)).takeWhile (· != 47) = x := by
  have hx : ∀ a ∈ x, (a != 47) = true := fun a ha => by simpa using fun e : a = 47 => h (e ▸ ha)
  cases r with
  | nil =>
    show x.takeWhile _ = x
    have := List.takeWhile_append_of_pos (p := (· != 47)) (l₁ := x) (l₂ := []) hx
    simpa using this
  | cons y r =>
    show (x ++ 47 :: joinL (y :: r)).takeWhile _ = x
    rw [List.takeWhile_append_of_pos hx]; simp
theorem joinL_dw (x : List Nat) (r : List (List Nat)) (h : 47 ∉ x) : (joinL (x :: r)).dropWhile (· != 47) = match r with | [] => [] | y :: r => 47 :: joinL (y :: r) := by
  have hx : ∀ a ∈ x, (a != 47) = true := fun a ha => by simpa using fun e : a = 47 => h (e ▸ ha)
  cases r with
  | nil =>
    show x.dropWhile _ = []
    have := List.dropWhile_append_of_pos (p := (· != 47)) (l₁ := x) (l₂ := []) hx
    simpa using this
  | cons y r =>
    show (x ++ 47 :: joinL (y :: r)).dropWhile _ = _
    rw [List.dropWhile_append_of_pos hx]; simp
theorem joinL_uniq : ∀ (a b : List (List Nat)), a ≠ [] → b ≠ [] → (∀ p ∈ a, 47 ∉ p) → (∀ p ∈ b, 47 ∉ p) → joinL a = joinL b → a = b
  | [], _, h, _, _, _, _ => absurd rfl h
  | _ :: _, [], _, h, _, _, _ => absurd rfl h
  | x :: r, y :: q, _, _, ha, hb, e => by
    have h1 := joinL_tw x r (ha x (List.mem_cons_self ..))
    have h2 := joinL_tw y q (hb y (List.mem_cons_self ..))
    have h3 := joinL_dw x r (ha x (List.mem_cons_self ..))
    have h4 := joinL_dw y q (hb y (List.mem_cons_self ..))
    rw [e] at h1 h3
    have hxy : x = y := h1.symm.trans h2
    have hd := h3.symm.trans h4
    subst hxy
    cases r with
    | nil => cases q with
      | nil => rfl
      | cons b q => exact absurd hd (by simp)
    | cons c r => cases q with
      | nil => exact absurd hd (by simp)
      | cons b q =>
        have hj : joinL (c :: r) = joinL (b :: q) := by simpa using hd
        rw [joinL_uniq (c :: r) (b :: q) (by simp) (by simp) (fun p hp => ha p (List.mem_cons_of_mem _ hp)) (fun p hp => hb p (List.mem_cons_of_mem _ hp)) hj]
theorem split_ne (x : PySem.Str) (c : Nat) : Txt.split x ⟨#[c]⟩ ≠ [] := by
  unfold Txt.split
  split
  · simp
  · split
    · simp
    · rw [StrLaws.partsBetween_eq]
      obtain ⟨p, r, e⟩ := StrLaws.partsFrom_ne x (⟨#[c]⟩ : PySem.Str).length 0 (Builtin.Str.occurrences x ⟨#[c]⟩ 0 x.length (x.length + 1))
      rw [e]; simp
theorem split_mk (parts : List (List Nat)) (h : parts ≠ []) (hf : ∀ p ∈ parts, 47 ∉ p) : Txt.split (mk (joinL parts)) (mk [47]) = parts.map mk := by
  have hs := StrLaws.split_free (mk (joinL parts)) 47
  have hj := StrLaws.join_split (mk (joinL parts)) ⟨#[47]⟩
  have hn := split_ne (mk (joinL parts)) 47
  show Txt.split (mk (joinL parts)) ⟨#[47]⟩ = _
  generalize Txt.split (mk (joinL parts)) ⟨#[47]⟩ = ys at hs hj hn
  have e : ys = (ys.map fun y => y.cps.toList).map mk := by
    rw [List.map_map]
    conv => lhs; rw [← List.map_id ys]
    exact List.map_congr_left fun y _ => (mk_of y).symm
  have hj2 : Txt.join (mk [47]) ((ys.map fun y => y.cps.toList).map mk) = mk (joinL parts) := by
    rw [← e]
    unfold Txt.join
    rw [StrLaws.glued_eq_join]; exact hj
  rw [join_mk] at hj2
  have := joinL_uniq (ys.map fun y => y.cps.toList) parts (by simpa using hn) h (by
    intro p hp
    obtain ⟨y, hy, rfl⟩ := List.mem_map.mp hp
    exact hs y hy) hf (mk_inj hj2)
  rw [e, this]
end Mine
end

section
open PySem PySem.W PyProof.Rows
set_option Elab.async false
set_option maxRecDepth 100000
namespace Mine

/-- what a call of the function at f does: from any frame, the value R and nothing else -/
def Cl (w : World) (mean : ExcName → Option Value) (mg mb : PySem.Str → Option Value) (f : Addr) (dq uq : Nat) (pre : Prop) (vs : List Value) (R : Tok → Value) : Prop :=
  ∀ (dp un : Nat) (gd : Option (List Code)) (cn : PySem.Str) (cs : Scope) (a : Addr) (ccd : Value) (cl : List (PySem.Str × Addr)) (outer : List Env) (A₀ : Around) (base h₀ : Heap) (L : Addr) (m : PySem.Str → Option Value) (news : List (Addr × Obj)) (s : Shared) (Q E : Value → Shared → Prop),
    Below A₀ base outer h₀ → Fr h₀ L s.heap m → (hd.heap_1 w.params).In h₀ → News h₀ L s.heap news → Top view1 (looseW view1 [PySem.Str.ofString "_filemode_table"]) mean mg mb h₀ → cs.kind = .function →
    pre → dp + dq < recursionLimit → un + uq < cLine → (∀ (t : Tok) (h' : Heap) (tk' : Nat), Fr h₀ L h' m → News h₀ L h' news → Q (R t) { s with heap := h', toks := tk' }) →
      wpAny (model PySem.Challenge.rw_il0084_01.row.prog w) (ktrTop dp un gd cn cs L a ccd cl outer) (call (.ref f) vs) Q E s

theorem Cl.use {w : World} {mean : ExcName → Option Value} {mg mb : PySem.Str → Option Value} {f : Addr} {dq uq : Nat} {pre : Prop} {vs : List Value} {R : Tok → Value} (C : Cl w mean mg mb f dq uq pre vs R)
    {dp un : Nat} {gd : Option (List Code)} {cn : PySem.Str} {cs : Scope} {a : Addr} {ccd : Value} {cl : List (PySem.Str × Addr)} {outer : List Env} {A₀ : Around} {base h₀ : Heap} {L : Addr} {m : PySem.Str → Option Value} {news : List (Addr × Obj)} {s : Shared} {Q E : Value → Shared → Prop}
    (B : Below A₀ base outer h₀) (F : Fr h₀ L s.heap m) (X : (hd.heap_1 w.params).In h₀) (N : News h₀ L s.heap news) (T : Top view1 (looseW view1 [PySem.Str.ofString "_filemode_table"]) mean mg mb h₀) (hk : cs.kind = .function)
    (hpre : pre) (hd : dp + dq < recursionLimit) (hu : un + uq < cLine) (ret : ∀ (t : Tok) (h' : Heap) (tk' : Nat), Fr h₀ L h' m → News h₀ L h' news → Q (R t) { s with heap := h', toks := tk' }) :
    wpAny (model PySem.Challenge.rw_il0084_01.row.prog w) (ktrTop dp un gd cn cs L a ccd cl outer) (call (.ref f) vs) Q E s :=
  C dp un gd cn cs a ccd cl outer A₀ base h₀ L m news s Q E B F X N T hk hpre hd hu ret

end Mine
end

section
open PySem PySem.W PyProof.Rows
set_option Elab.async false
set_option maxRecDepth 100000
set_option maxHeartbeats 0
namespace Mine
variable {w : World} {A : Around} {E : Value → Shared → Prop} {s : Shared} {h₀ : Heap} {L f : Addr} {m : PySem.Str → Option Value} {news : List (Addr × Obj)}

theorem frame_same {h : Heap} {y : PySem.Str} {v : Value} (F : Fr h₀ L h m) (hm : m y = some v) : Fr h₀ L h (fun z => if z = y then some v else m z) := by
  have e : (fun z => if z = y then some v else m z) = m := by
    funext z
    by_cases h : z = y
    · rw [if_pos h, h, hm]
    · rw [if_neg h]
  rw [e]; exact F

abbrev escScope : Scope := { kind := .function, names := [(PySem.Str.ofString "text", .local), (PySem.Str.ofString "TypeError", .globalImplicit), (PySem.Str.ofString "AttributeError", .globalImplicit), (PySem.Str.ofString "_raise_serialization_error", .globalImplicit)], isGenerator := false, isCoroutine := false, more := [] }
theorem if_rep {Q : Flow → Shared → Prop} {cn : PySem.Str} {cdv : Value} (k : Nat) (zl : List Nat) {c z : PySem.Str} {l : List Nat} {t : Tok} {p1 p2 p3 p4 p5 p6 p7 p8 p9 p10 p11 : Pos}
    (F : Fr h₀ L s.heap m) (N : News h₀ L s.heap news) (hm : m (PySem.Str.ofString "text") = some (.str (mk l) t)) (hx : l.length ≤ 1000000) (hc : c = ⟨#[k]⟩) (hz : z = mk zl) (hzl : zl.length ≤ 14) (hcz : ([k] == zl) = false)
    (hp : methodCallPos true (.Name (PySem.Str.ofString "text") p5) (envOf cn escScope L f cdv) p6 p9 = pure p9)
    (h : ∀ h' t' tk', Fr h₀ L h' (fun y => if y = PySem.Str.ofString "text" then some (.str (mk (repL k zl l)) t') else m y) → News h₀ L h' news → Q .next { s with heap := h', toks := tk' }) :
    wpAny (model PySem.Challenge.rw_il0084_01.row.prog w) A (exec (.If (.Compare (.Constant (.str c) 0 p1) [.In] [.Name (PySem.Str.ofString "text") p2] p3)
      [.Assign [.Name (PySem.Str.ofString "text") p4] (.Call (.Attribute (.Name (PySem.Str.ofString "text") p5) (PySem.Str.ofString "replace") p6) [.Constant (.str c) 0 p7, .Constant (.str z) 0 p8] [] p9) p10] [] p11) (envOf cn escScope L f cdv)) Q E s := by
  subst hc hz
  refine wpAny_If ?_
  refine wpAny_isTrue_Compare1 ?_
  walk1
  refine ld F hm ?_
  refine in_str ?_
  refine wpAny_truthy_bool ?_
  cases ho : (Builtin.Str.occurrences (mk l) ⟨#[k]⟩ 0 (mk l).length 1).isEmpty with
  | true =>
    simp only [Bool.not_true, Bool.false_eq_true, if_false]
    refine wpAny_execs_nil ?_
    have := h s.heap t (s.toks + 1)
    rw [repL_free (notin_mk ho)] at this
    exact this (frame_same F hm) N
  | false =>
    simp only [Bool.not_false, if_true]
    refine wpAny_execs_cons (wpAny_Assign_Name ?_)
    refine MethodCall_ (pl := (do return (← importBound (.Name (PySem.Str.ofString "text") p5) (envOf cn escScope L f cdv)).getD true)) ?_ (by
      show (do
        let ov ← eval (.Name (PySem.Str.ofString "text") p5) (envOf cn escScope L f cdv)
        standAt p6.atName
        let (f', first) ← holding [ov] (getMethod ov (PySem.Str.ofString "replace") (do return (← importBound (.Name (PySem.Str.ofString "text") p5) (envOf cn escScope L f cdv)).getD true))
        let callPos ← methodCallPos true (.Name (PySem.Str.ofString "text") p5) (envOf cn escScope L f cdv) p6 p9
        callWith callPos f' first (backTo p9 (starEach _ (envOf cn escScope L f cdv))) []) = _
      rw [hp]; rfl)
    refine ld F hm ?_
    walk1
    walk1
    walk1
    walk1
    walk1
    walk1
    walk1
    refine SC.replaceW (by simp) (by simp) (by simp) (by
      have e : (⟨#[k]⟩ : PySem.Str) = mk [k] := rfl
      rw [e, mk_beq]
      simpa using hcz) (by rw [mk_len]; omega) (by rw [mk_len]; exact hzl) ?_
    intro t' tk'
    refine stN F N ?_
    intro h' F' N'
    refine wpAny_execs_nil ?_
    rw [replace_mk] at F'
    exact h h' t' (tk' + 1) F' N'

theorem esc_cdata (w : World) (mean : ExcName → Option Value) (mg mb : PySem.Str → Option Value) (l : List Nat) (t : Tok) : Cl w mean mg mb 35 1 8 (l.length ≤ 100000) [.str (mk l) t] (fun t' => .str (mk (escL psR l)) t') := by
  unfold Cl
  k_fill
  intro dp un gd cn cs a ccd cl outer A₀ base h₀ L m news s Q E B F X N T hk pre hd hu hret
  refine wpAny_call ?_
  k_dflt cell_enter
  walk1
  walk1
  walk1
  refine wpAny_execs_cons (if_rep 38 amp (by k_asm) (by k_asm) rfl (by omega) (by decide +kernel) (by decide +kernel) (by decide) (by decide) rfl ?_)
  intro h0 t0 tk0 F0 N0
  refine wpAny_execs_cons (if_rep 60 lt (by k_asm) (by k_asm) rfl (by have := escL_len (ps := [(38, amp)]) (n := 6) (by decide) (by decide) l; exact Nat.le_trans this (by omega)) (by decide +kernel) (by decide +kernel) (by decide) (by decide) rfl ?_)
  intro h1 t1 tk1 F1 N1
  refine wpAny_execs_cons (if_rep 62 gt (by k_asm) (by k_asm) rfl (by have := escL_len (ps := [(38, amp), (60, lt)]) (n := 6) (by decide) (by decide) l; exact Nat.le_trans this (by omega)) (by decide +kernel) (by decide +kernel) (by decide) (by decide) rfl ?_)
  intro h2 t2 tk2 F2 N2
  walk1
  walk1
  walk1
  walk1
  exact hret _ _ _ (by k_asm) (by k_asm)

theorem esc_attrib (w : World) (mean : ExcName → Option Value) (mg mb : PySem.Str → Option Value) (l : List Nat) (t : Tok) : Cl w mean mg mb 42 1 8 (l.length ≤ 100000) [.str (mk l) t] (fun t' => .str (mk (escL psW l)) t') := by
  unfold Cl
  k_fill
  intro dp un gd cn cs a ccd cl outer A₀ base h₀ L m news s Q E B F X N T hk pre hd hu hret
  refine wpAny_call ?_
  k_dflt cell_enter
  walk1
  walk1
  walk1
  refine wpAny_execs_cons (if_rep 38 amp (by k_asm) (by k_asm) rfl (by omega) (by decide +kernel) (by decide +kernel) (by decide) (by decide) rfl ?_)
  intro h0 t0 tk0 F0 N0
  refine wpAny_execs_cons (if_rep 60 lt (by k_asm) (by k_asm) rfl (by have := escL_len (ps := [(38, amp)]) (n := 6) (by decide) (by decide) l; exact Nat.le_trans this (by omega)) (by decide +kernel) (by decide +kernel) (by decide) (by decide) rfl ?_)
  intro h1 t1 tk1 F1 N1
  refine wpAny_execs_cons (if_rep 62 gt (by k_asm) (by k_asm) rfl (by have := escL_len (ps := [(38, amp), (60, lt)]) (n := 6) (by decide) (by decide) l; exact Nat.le_trans this (by omega)) (by decide +kernel) (by decide +kernel) (by decide) (by decide) rfl ?_)
  intro h2 t2 tk2 F2 N2
  refine wpAny_execs_cons (if_rep 34 quot (by k_asm) (by k_asm) rfl (by have := escL_len (ps := [(38, amp), (60, lt), (62, gt)]) (n := 6) (by decide) (by decide) l; exact Nat.le_trans this (by omega)) (by decide +kernel) (by decide +kernel) (by decide) (by decide) rfl ?_)
  intro h3 t3 tk3 F3 N3
  refine wpAny_execs_cons (if_rep 13 d13 (by k_asm) (by k_asm) rfl (by have := escL_len (ps := [(38, amp), (60, lt), (62, gt), (34, quot)]) (n := 6) (by decide) (by decide) l; exact Nat.le_trans this (by omega)) (by decide +kernel) (by decide +kernel) (by decide) (by decide) rfl ?_)
  intro h4 t4 tk4 F4 N4
  refine wpAny_execs_cons (if_rep 10 d10 (by k_asm) (by k_asm) rfl (by have := escL_len (ps := [(38, amp), (60, lt), (62, gt), (34, quot), (13, d13)]) (n := 6) (by decide) (by decide) l; exact Nat.le_trans this (by omega)) (by decide +kernel) (by decide +kernel) (by decide) (by decide) rfl ?_)
  intro h5 t5 tk5 F5 N5
  refine wpAny_execs_cons (if_rep 9 d09 (by k_asm) (by k_asm) rfl (by have := escL_len (ps := [(38, amp), (60, lt), (62, gt), (34, quot), (13, d13), (10, d10)]) (n := 6) (by decide) (by decide) l; exact Nat.le_trans this (by omega)) (by decide +kernel) (by decide +kernel) (by decide) (by decide) rfl ?_)
  intro h6 t6 tk6 F6 N6
  walk1
  walk1
  walk1
  walk1
  exact hret _ _ _ (by k_asm) (by k_asm)

theorem esc_html (w : World) (mean : ExcName → Option Value) (mg mb : PySem.Str → Option Value) (l : List Nat) (t : Tok) : Cl w mean mg mb 49 1 8 (l.length ≤ 100000) [.str (mk l) t] (fun t' => .str (mk (escL psX l)) t') := by
  unfold Cl
  k_fill
  intro dp un gd cn cs a ccd cl outer A₀ base h₀ L m news s Q E B F X N T hk pre hd hu hret
  refine wpAny_call ?_
  k_dflt cell_enter
  walk1
  walk1
  walk1
  refine wpAny_execs_cons (if_rep 38 amp (by k_asm) (by k_asm) rfl (by omega) (by decide +kernel) (by decide +kernel) (by decide) (by decide) rfl ?_)
  intro h0 t0 tk0 F0 N0
  refine wpAny_execs_cons (if_rep 62 gt (by k_asm) (by k_asm) rfl (by have := escL_len (ps := [(38, amp)]) (n := 6) (by decide) (by decide) l; exact Nat.le_trans this (by omega)) (by decide +kernel) (by decide +kernel) (by decide) (by decide) rfl ?_)
  intro h1 t1 tk1 F1 N1
  refine wpAny_execs_cons (if_rep 34 quot (by k_asm) (by k_asm) rfl (by have := escL_len (ps := [(38, amp), (62, gt)]) (n := 6) (by decide) (by decide) l; exact Nat.le_trans this (by omega)) (by decide +kernel) (by decide +kernel) (by decide) (by decide) rfl ?_)
  intro h2 t2 tk2 F2 N2
  walk1
  walk1
  walk1
  walk1
  exact hret _ _ _ (by k_asm) (by k_asm)

theorem esc_cdata_c14n (w : World) (mean : ExcName → Option Value) (mg mb : PySem.Str → Option Value) (l : List Nat) (t : Tok) : Cl w mean mg mb 56 1 8 (l.length ≤ 100000) [.str (mk l) t] (fun t' => .str (mk (escL psS l)) t') := by
  unfold Cl
  k_fill
  intro dp un gd cn cs a ccd cl outer A₀ base h₀ L m news s Q E B F X N T hk pre hd hu hret
  refine wpAny_call ?_
  k_dflt cell_enter
  walk1
  walk1
  walk1
  refine wpAny_execs_cons (if_rep 38 amp (by k_asm) (by k_asm) rfl (by omega) (by decide +kernel) (by decide +kernel) (by decide) (by decide) rfl ?_)
  intro h0 t0 tk0 F0 N0
  refine wpAny_execs_cons (if_rep 60 lt (by k_asm) (by k_asm) rfl (by have := escL_len (ps := [(38, amp)]) (n := 6) (by decide) (by decide) l; exact Nat.le_trans this (by omega)) (by decide +kernel) (by decide +kernel) (by decide) (by decide) rfl ?_)
  intro h1 t1 tk1 F1 N1
  refine wpAny_execs_cons (if_rep 62 gt (by k_asm) (by k_asm) rfl (by have := escL_len (ps := [(38, amp), (60, lt)]) (n := 6) (by decide) (by decide) l; exact Nat.le_trans this (by omega)) (by decide +kernel) (by decide +kernel) (by decide) (by decide) rfl ?_)
  intro h2 t2 tk2 F2 N2
  refine wpAny_execs_cons (if_rep 13 xD (by k_asm) (by k_asm) rfl (by have := escL_len (ps := [(38, amp), (60, lt), (62, gt)]) (n := 6) (by decide) (by decide) l; exact Nat.le_trans this (by omega)) (by decide +kernel) (by decide +kernel) (by decide) (by decide) rfl ?_)
  intro h3 t3 tk3 F3 N3
  walk1
  walk1
  walk1
  walk1
  exact hret _ _ _ (by k_asm) (by k_asm)

theorem esc_attrib_c14n (w : World) (mean : ExcName → Option Value) (mg mb : PySem.Str → Option Value) (l : List Nat) (t : Tok) : Cl w mean mg mb 63 1 8 (l.length ≤ 100000) [.str (mk l) t] (fun t' => .str (mk (escL psT l)) t') := by
  unfold Cl
  k_fill
  intro dp un gd cn cs a ccd cl outer A₀ base h₀ L m news s Q E B F X N T hk pre hd hu hret
  refine wpAny_call ?_
  k_dflt cell_enter
  walk1
  walk1
  walk1
  refine wpAny_execs_cons (if_rep 38 amp (by k_asm) (by k_asm) rfl (by omega) (by decide +kernel) (by decide +kernel) (by decide) (by decide) rfl ?_)
  intro h0 t0 tk0 F0 N0
  refine wpAny_execs_cons (if_rep 60 lt (by k_asm) (by k_asm) rfl (by have := escL_len (ps := [(38, amp)]) (n := 6) (by decide) (by decide) l; exact Nat.le_trans this (by omega)) (by decide +kernel) (by decide +kernel) (by decide) (by decide) rfl ?_)
  intro h1 t1 tk1 F1 N1
  refine wpAny_execs_cons (if_rep 34 quot (by k_asm) (by k_asm) rfl (by have := escL_len (ps := [(38, amp), (60, lt)]) (n := 6) (by decide) (by decide) l; exact Nat.le_trans this (by omega)) (by decide +kernel) (by decide +kernel) (by decide) (by decide) rfl ?_)
  intro h2 t2 tk2 F2 N2
  refine wpAny_execs_cons (if_rep 9 x9 (by k_asm) (by k_asm) rfl (by have := escL_len (ps := [(38, amp), (60, lt), (34, quot)]) (n := 6) (by decide) (by decide) l; exact Nat.le_trans this (by omega)) (by decide +kernel) (by decide +kernel) (by decide) (by decide) rfl ?_)
  intro h3 t3 tk3 F3 N3
  refine wpAny_execs_cons (if_rep 10 xA (by k_asm) (by k_asm) rfl (by have := escL_len (ps := [(38, amp), (60, lt), (34, quot), (9, x9)]) (n := 6) (by decide) (by decide) l; exact Nat.le_trans this (by omega)) (by decide +kernel) (by decide +kernel) (by decide) (by decide) rfl ?_)
  intro h4 t4 tk4 F4 N4
  refine wpAny_execs_cons (if_rep 13 xD (by k_asm) (by k_asm) rfl (by have := escL_len (ps := [(38, amp), (60, lt), (34, quot), (9, x9), (10, xA)]) (n := 6) (by decide) (by decide) l; exact Nat.le_trans this (by omega)) (by decide +kernel) (by decide +kernel) (by decide) (by decide) rfl ?_)
  intro h5 t5 tk5 F5 N5
  walk1
  walk1
  walk1
  walk1
  exact hret _ _ _ (by k_asm) (by k_asm)
end Mine
end

section
open PySem PySem.W PyProof.Rows
set_option Elab.async false
set_option maxRecDepth 100000
set_option maxHeartbeats 0
namespace Mine

/-- what a letter does to a text -/
def runL (c : Nat) (l : List Nat) : List Nat :=
  if c = 114 then escL psR l else if c = 119 then escL psW l else if c = 120 then escL psX l else if c = 115 then escL psS l else if c = 116 then escL psT l else l

theorem chr_true {c d : Nat} {x : PySem.Str} (hx : x = mk [d]) (h : (mk [c] == x) = true) : c = d := by
  rw [hx, mk_beq] at h
  simpa using h
theorem chr_false {c d : Nat} {x : PySem.Str} (hx : x = mk [d]) (h : (mk [c] == x) = false) : c ≠ d := by
  rw [hx, mk_beq] at h
  simpa using h
local macro_rules | `(tactic| walk_at "call ref") => `(tactic| (k_here; (first | refine' Cl.use (esc_cdata _ _ _ _ _ _) ?k1 ?k2 ?k3 ?k4 ?k5 ?kK ?kp ?kd ?ku ?_ | refine' Cl.use (esc_attrib _ _ _ _ _ _) ?k1 ?k2 ?k3 ?k4 ?k5 ?kK ?kp ?kd ?ku ?_ | refine' Cl.use (esc_html _ _ _ _ _ _) ?k1 ?k2 ?k3 ?k4 ?k5 ?kK ?kp ?kd ?ku ?_ | refine' Cl.use (esc_cdata_c14n _ _ _ _ _ _) ?k1 ?k2 ?k3 ?k4 ?k5 ?kK ?kp ?kd ?ku ?_ | refine' Cl.use (esc_attrib_c14n _ _ _ _ _ _) ?k1 ?k2 ?k3 ?k4 ?k5 ?kK ?kp ?kd ?ku ?_); (case k1 => k_asm); (case k2 => k_asm); (case k3 => k_asm); (case k4 => k_asm); (case k5 => k_asm); (case kK => exact rfl); (case kp => assumption); (case kd => first | omega | (dsimp only [Around.deeper, ktrTop]; omega)); (case ku => first | omega | (dsimp only [Around.deeper, ktrTop]; omega)); k_whole; intro t9 h9 tk9 F9 N9; (try dsimp only); (try k_fold)))

theorem law_run (w : World) (mean : ExcName → Option Value) (mg mb : PySem.Str → Option Value) (c : Nat) (u : Tok) (l : List Nat) (t : Tok) : Cl w mean mg mb 239 2 16 (l.length ≤ 100000) [.str (mk [c]) u, .str (mk l) t] (fun t' => .str (mk (runL c l)) t') := by
  unfold Cl
  k_fill
  intro dp un gd cn cs a ccd cl outer A₀ base h₀ L m news s Q E B F X N T hk pre hd hu hret
  refine wpAny_call ?_
  k_dflt cell_enter
  k_steps
  · exact cb_retS hret (by have e := chr_true (d := 114) rfl (by assumption : (mk [c] == PySem.Str.ofString "r") = true); simp [runL, e]) (by k_asm) (by k_asm)
  · exact cb_retS hret (by have e := chr_true (d := 119) rfl (by assumption : (mk [c] == PySem.Str.ofString "w") = true); simp [runL, e]) (by k_asm) (by k_asm)
  · exact cb_retS hret (by have e := chr_true (d := 120) rfl (by assumption : (mk [c] == PySem.Str.ofString "x") = true); simp [runL, e]) (by k_asm) (by k_asm)
  · exact cb_retS hret (by have e := chr_true (d := 115) rfl (by assumption : (mk [c] == PySem.Str.ofString "s") = true); simp [runL, e]) (by k_asm) (by k_asm)
  · exact cb_retS hret (by have e := chr_true (d := 116) rfl (by assumption : (mk [c] == PySem.Str.ofString "t") = true); simp [runL, e]) (by k_asm) (by k_asm)
  · refine cb_retS hret ?_ (by k_asm) (by k_asm)
    have e114 := chr_false (d := 114) rfl (by assumption : (mk [c] == PySem.Str.ofString "r") = false)
    have e119 := chr_false (d := 119) rfl (by assumption : (mk [c] == PySem.Str.ofString "w") = false)
    have e120 := chr_false (d := 120) rfl (by assumption : (mk [c] == PySem.Str.ofString "x") = false)
    have e115 := chr_false (d := 115) rfl (by assumption : (mk [c] == PySem.Str.ofString "s") = false)
    have e116 := chr_false (d := 116) rfl (by assumption : (mk [c] == PySem.Str.ofString "t") = false)
    simp only [runL, if_neg e114, if_neg e119, if_neg e120, if_neg e115, if_neg e116]
end Mine
end

section
open PySem PySem.W PyProof.Rows PySem.Calls
set_option Elab.async false
set_option maxRecDepth 100000
set_option maxHeartbeats 0
namespace Mine
section
variable {prog : Program} {w : World} {A : Around} {E : Value → Shared → Prop} {s : Shared}
theorem type_str : typeOf (.type "str") = pure (.type "type") := by kernel_rfl
theorem meta_str : (isSubtype (.type "type") (.type "type") : Sem Bool) = pure true := by rw [isSubtype_type]; kernel_rfl
theorem sub_str : isSubtype (.type "str") (.type "str") = pure true := by rw [isSubtype_type]; kernel_rfl
theorem nested_str {dep : Int} {tk : Tok} {Q : Fin → Shared → Prop} (hq : Q (.done (.ret (.bool true))) s) :
    wpAny (model prog w) A (Builtin.«issubclass.nested» ⟨[.type "str", .type "str", .int dep tk], []⟩) Q E s := by
  have h1 := type_str
  have h2 := sub_str
  have h3 := meta_str
  repeat (any_goals (first | assumption | (rw [h2]) | wp_step))
theorem kind_nested : builtinKind "issubclass.nested" = none := by decide +kernel
theorem plain_nested : plainId "issubclass.nested" = true := by decide +kernel
theorem args_nested (a b c : Value) : argsOk "issubclass.nested" ⟨[a, b, c], []⟩ := by unfold argsOk; kernel_rfl
theorem nested_tuple {tp : Addr} {c : Value} {cs : List Value} {tk : Tok} {Q : Fin → Shared → Prop} (hcs : cs = [.type "str", c]) (htp : s.heap.get? tp = some { cls := .type "tuple", data := .seq cs.toArray })
    (hq : Q (.done (.ret (.bool true))) s) : wpAny (model prog w) A (Builtin.«issubclass.nested» ⟨[.type "str", .ref tp, .int 0 tk], []⟩) Q E s := by
  obtain ⟨h, g, d, t, os⟩ := s
  have hT2 : (⟨h, g, d, t, os⟩ : Shared).TypeIs (.ref tp) "tuple" := ⟨_, htp, rfl⟩
  have f1 := F.isi_sub_tuple
  repeat (any_goals (first | assumption | wp_step))
  refine wpAny_arrayLoop ?_
  simp only [Option.getD_some, List.toList_toArray]
  subst hcs
  rw [List.forIn_cons]
  refine wpAny_bind (wpAny_bind (call_function_meets (S := fun _ R s => R (.ok (.ret (.bool true))) s) kind_nested plain_nested PySem.F.entry_issubclass_nested (args_nested _ _ _) (fun _ _ _ _ _ hs => nested_str hs) ?_))
  show wpAny _ _ (truthy (.bool true) >>= _) _ _ _
  refine wpAny_bind (m := truthy (.bool true)) (wpAny_pure ?_)
  refine wpAny_bind (wpAny_pure (wpAny_pure (wpAny_pure ?_)))
  exact wpAny_pure hq
theorem issub_str {tp : Addr} {c : Value} {Q : Value → Shared → Prop} (htp : s.heap.get? tp = some { cls := .type "tuple", data := .seq [.type "str", c].toArray }) (h : Q (.bool true) s) :
    wpAny (model prog w) A (call (.builtin "issubclass") [.type "str", .ref tp]) Q E s :=
  call_issubclass (S := fun _ R s => s.heap.get? tp = some { cls := .type "tuple", data := .seq [.type "str", c].toArray } ∧ R (.ok (.ret (.bool true))) s)
    (fun _ _ _ _ _ hs => issubclass_outer (nested_tuple rfl hs.1 hs.2)) ⟨htp, h⟩
end
local macro_rules | `(tactic| walk_at "call builtin:issubclass") => `(tactic| (k_here; (refine' issub_str ?k1 ?_; (case k1 => exact News.get (by k_asm) (by k_mem)); k_whole)))
theorem c_fspath (w : World) (mean : ExcName → Option Value) (mg mb : PySem.Str → Option Value) (l : List Nat) (t : Tok) : Cl w mean mg mb 136 1 8 True [.str (mk l) t] (fun t' => .str (mk l) t') := by
  unfold Cl
  k_fill
  intro dp un gd cn cs a ccd cl outer A₀ base h₀ L m news s Q E B F X N T hk pre hd hu hret
  refine wpAny_call ?_
  k_dflt cell_enter
  k_steps
  exact cb_retS hret rfl (by k_asm) (by first | k_asm | exact cb_drop (by assumption) (by kcj_all))
theorem c_get_sep (w : World) (mean : ExcName → Option Value) (mg mb : PySem.Str → Option Value) (l : List Nat) (t : Tok) : Cl w mean mg mb 150 1 8 True [.str (mk l) t] (fun t' => .str (mk [47]) t') := by
  unfold Cl
  k_fill
  intro dp un gd cn cs a ccd cl outer A₀ base h₀ L m news s Q E B F X N T hk pre hd hu hret
  refine wpAny_call ?_
  k_dflt cell_enter
  k_steps
  exact cb_retS hret (by decide +kernel) (by k_asm) (by k_asm)
end Mine
end

section
open PySem PySem.W PyProof.Rows PySem.Calls
set_option Elab.async false
set_option maxRecDepth 100000
set_option maxHeartbeats 0
namespace Mine
section
variable {w : World} {A : Around} {E : Value → Shared → Prop} {s : Shared}
theorem my_rfind {l pre last : List Nat} {c : Nat} {t u : Tok} {Q : Value → Shared → Prop} (hl : l = pre ++ c :: last) (h : c ∉ last) (hq : Q (.int (pre.length : Int) s.toks) { s with toks := s.toks + 1 }) :
    wpAny (model PySem.Challenge.rw_il0084_01.row.prog w) A (call (.builtin "str.rfind") [.str (mk l) t, .str (mk [c]) u]) Q E s := by
  subst hl
  refine SC.rfind ?_
  rw [rfind_mk _ _ _ h]; exact hq
theorem sl_ns {h₀ : Heap} {L : Addr} {m : PySem.Str → Option Value} {news : List (Addr × Obj)} {value slice : PySem.Expr} {x y : PySem.Str} {t : Tok} {Q : Value → Shared → Prop} {j : Int} {uj : Tok} (e : Txt.slice x none (some j) = y) (hF : Fr h₀ L s.heap m) (hN : News h₀ L s.heap news) (h : ∀ h' t' k, Fr h₀ L h' m → News h₀ L h' news → Q (.str y t') { s with heap := h', toks := k })
    (hs : subscripted slice false (.str x t) (.ref s.heap.objs.size) = operate [.ref s.heap.objs.size, .str x t] (getItem (.str x t) (.ref s.heap.objs.size)) := by with_unfolding_all rfl)
    (ht : ∀ r, letTemporaryGo value (.str x t) r = pure () := by intro _; with_unfolding_all rfl) (hsz : x.length ≤ sizeLine := by size_fits) :
    wpAny (model PySem.Challenge.rw_il0084_01.row.prog w) A (subscriptTail value slice (.str x t) (.ref s.heap.objs.size)) Q E { s with heap := s.heap.push { cls := .type "slice", data := .fields #[.none, .int j uj, .none] } } := by
  subst e; exact slice_strN_ns hF hN h hs ht hsz
theorem dir_eq {l pre last : List Nat} {c : Nat} (hl : l = pre ++ c :: last) : Txt.slice (mk l) none (some ((pre.length : Int) + 1)) = mk (pre ++ [c]) := by
  rw [show (pre.length : Int) + 1 = ((pre.length + 1 : Nat) : Int) from rfl, slice_to _ _ (by rw [hl]; simp), hl]
  congr 1
  rw [show pre ++ c :: last = (pre ++ [c]) ++ last by simp]
  exact List.take_left' (by simp)
theorem truthy_mk {l : List Nat} {t : Tok} {Q : Bool → Shared → Prop} (hl : l.length ≤ 10000000) (h : Q (decide (l ≠ [])) { s with toks := s.toks + 1 + 1 }) : wpAny (model PySem.Challenge.rw_il0084_01.row.prog w) A (truthy (.str (mk l) t)) Q E s := by
  refine P.truthy_str (by rw [mk_len]; omega) ?_
  have e : (((mk l).length : Int) != 0) = decide (l ≠ []) := by
    rw [mk_len]
    cases l with
    | nil => rfl
    | cons a r =>
      rw [Bool.eq_iff_iff, bne_iff_ne, decide_eq_true_eq]
      simp; omega
  rw [e]; exact h
theorem mul_mk {c : Nat} {n : Nat} {t u : Tok} {Q : Value → Shared → Prop} (hn : n ≤ 10000000) (h : ∀ t' k, Q (.str (mk (List.replicate n c)) t') { s with toks := k }) :
    wpAny (model PySem.Challenge.rw_il0084_01.row.prog w) A (binaryOp .Mult (.str (mk [c]) t) (.int (n : Int) u)) Q E s := by
  refine SB.mul (mulOk_of 1 10000000 (by rw [mk_len]; exact Nat.le_refl 1) (by omega) (by omega) (by decide) (by decide)) ?_
  have e : Txt.mul (mk [c]) (n : Int) = mk (List.replicate n c) := by
    apply Str.ext'
    rw [← Array.toList_inj, mk_toList]
    have := PyProof.Rows.mul_one_list c (n : Int)
    rw [Int.toNat_natCast] at this
    exact this
  rw [e]; exact h
theorem ne_mk {a b : List Nat} {t u : Tok} {Q : Value → Shared → Prop} (h : Q (.bool (decide (a ≠ b))) s) : wpAny (model PySem.Challenge.rw_il0084_01.row.prog w) A (compareOp .NotEq (.str (mk a) t) (.str (mk b) u)) Q E s := by
  refine ne_str ?_
  have e : (mk a != mk b) = decide (a ≠ b) := by
    rw [Bool.eq_iff_iff, bne_iff_ne, decide_eq_true_eq]
    exact ⟨fun h e => h (by rw [e]), fun h e => h (mk_inj e)⟩
  rw [e]; exact h
theorem rstrip_mk {pre : List Nat} {c : Nat} {t u : Tok} {Q : Value → Shared → Prop} (hp : pre.getLast? ≠ some c) (hl : pre.length ≤ 10000000) (h : ∀ t' k, Q (.str (mk pre) t') { s with toks := k }) :
    wpAny (model PySem.Challenge.rw_il0084_01.row.prog w) A (call (.builtin "str.rstrip") [.str (mk (pre ++ [c])) t, .str (mk [c]) u]) Q E s := by
  refine SC.rstripChars ?_ (by rw [mk_len, PySem.sizeLine_eq]; simp; omega)
  rw [rstrip_one _ _ hp]; exact h
theorem len_mk {l : List Nat} {t : Tok} {Q : Value → Shared → Prop} (hl : l.length ≤ 10000000) (h : Q (.int (l.length : Nat) (s.toks + 1)) { s with toks := s.toks + 1 + 1 }) : wpAny (model PySem.Challenge.rw_il0084_01.row.prog w) A (call (.builtin "len") [.str (mk l) t]) Q E s := by
  refine len_str (by rw [mk_len]; omega) ?_
  rw [mk_len]; exact h
end
local macro_rules | `(tactic| size_fits) => `(tactic| (rw [PySem.sizeLine_eq]; (try simp only [mk_len]); omega))
local macro_rules | `(tactic| walk_at "call builtin:str.rfind") => `(tactic| (refine my_rfind (by assumption) (by assumption) ?_))
local macro_rules | `(tactic| walk_at "call ref") => `(tactic| (k_here; (first | refine' Cl.use (c_fspath _ _ _ _ _ _) ?k1 ?k2 ?k3 ?k4 ?k5 ?kK ?kp ?kd ?ku ?_ | refine' Cl.use (c_get_sep _ _ _ _ _ _) ?k1 ?k2 ?k3 ?k4 ?k5 ?kK ?kp ?kd ?ku ?_); (case k1 => k_asm); (case k2 => k_asm); (case k3 => k_asm); (case k4 => k_asm); (case k5 => k_asm); (case kK => exact rfl); (case kp => first | trivial | assumption); (case kd => first | omega | (dsimp only [Around.deeper, ktrTop]; omega)); (case ku => first | omega | (dsimp only [Around.deeper, ktrTop]; omega)); k_whole; intro t9 h9 tk9 F9 N9; (try dsimp only); (try k_fold)))

local macro_rules | `(tactic| walk_at "subscriptTail Name Slice str ref") => `(tactic| ((with_reducible show wpAny _ _ (subscriptTail _ (Expr.Slice none (some _) none _) _ _) _ _ _); (with_reducible rename Fr _ _ _ _ => F'); (with_reducible rename News _ _ _ _ => N'); (refine sl_ns (s := ⟨_, _, _, _, _⟩) (dir_eq (by assumption)) F' N' ?_); intro _ _ _ _ _))
local macro_rules | `(tactic| walk_at "truthy str") => `(tactic| (refine truthy_mk (by simp; omega) ?_))
local macro_rules | `(tactic| walk_at "binaryOp Mult str int") => `(tactic| (refine mul_mk (by simp; omega) ?_; intro _ _))
local macro_rules | `(tactic| walk_at "compareOp NotEq str str") => `(tactic| (refine ne_mk ?_))
local macro_rules | `(tactic| walk_at "call builtin:len") => `(tactic| ((with_reducible show wpAny _ _ (call (Value.builtin "len") [Value.str _ _]) _ _ _); refine len_mk (by simp; omega) ?_))
local macro_rules | `(tactic| walk_at "call builtin:str.rstrip") => `(tactic| (refine rstrip_mk (by assumption) (by omega) ?_; intro _ _))
theorem c_basename (w : World) (mean : ExcName → Option Value) (mg mb : PySem.Str → Option Value) (l pre last : List Nat) (t : Tok) : Cl w mean mg mb 171 2 24 (l = pre ++ 47 :: last ∧ 47 ∉ last ∧ l.length ≤ 200000) [.str (mk l) t] (fun t' => .str (mk last) t') := by
  unfold Cl
  k_fill
  intro dp un gd cn cs a ccd cl outer A₀ base h₀ L m news s Q E B F X N T hk pre' hd hu hret
  obtain ⟨hl, hlast, hlen⟩ := pre'
  refine wpAny_call ?_
  k_dflt cell_enter
  k_steps
  refine cb_retS hret ?_ (by k_asm) (by k_asm)
  rw [show (pre.length : Int) + 1 = ((pre.length + 1 : Nat) : Int) from rfl, slice_from _ _ (by rw [hl]; simp)]
  rw [hl]; simp
theorem c_dirname (w : World) (mean : ExcName → Option Value) (mg mb : PySem.Str → Option Value) (l pre last : List Nat) (t : Tok) : Cl w mean mg mb 178 2 24 (l = pre ++ 47 :: last ∧ 47 ∉ last ∧ pre.getLast? ≠ some 47 ∧ l.length ≤ 200000) [.str (mk l) t] (fun t' => .str (mk (if pre = [] then [47] else pre)) t') := by
  unfold Cl
  k_fill
  intro dp un gd cn cs a ccd cl outer A₀ base h₀ L m news s Q E B F X N T hk pre' hd hu hret
  obtain ⟨hl, hlast, hpre, hlen⟩ := pre'
  have hlen2 : pre.length + 1 + last.length ≤ 200000 := by rw [hl] at hlen; simp at hlen; omega
  refine wpAny_call ?_
  k_dflt cell_enter
  k_steps
  · have hne : pre ≠ [] := fun e => (by assumption : pre ++ [47] ≠ List.replicate (pre ++ [47]).length 47) (by rw [e]; rfl)
    exact cb_retS hret (by rw [if_neg hne]) (by k_asm) (by k_asm)
  · have he : pre = [] := by
      have e : pre ++ [47] = List.replicate (pre ++ [47]).length 47 := Decidable.of_not_not (by assumption)
      rcases List.eq_nil_or_concat pre with h0 | ⟨r, a, h1⟩
      · exact h0
      · exfalso
        refine hpre ?_
        have hm : a ∈ List.replicate (pre ++ [47]).length 47 := by rw [← e, h1]; simp
        rw [h1, List.concat_eq_append, List.getLast?_append, (List.mem_replicate.mp hm).2]; rfl
    exact cb_retS hret (by rw [if_pos he, he]; rfl) (by k_asm) (by k_asm)
  · exact absurd (by assumption : ¬ (pre ++ [47] ≠ [])) (by simp)
end Mine
end

section
open PySem PySem.W PyProof.Rows PySem.Calls
set_option Elab.async false
set_option maxRecDepth 100000
set_option maxHeartbeats 0
namespace Mine
section
variable {prog : Program} {w : World} {A : Around} {E : Value → Shared → Prop} {s : Shared} {env : Env} {h₀ : Heap} {x : PySem.Str} {body : List Stmt} {Q : Flow → Shared → Prop}

def StepTo (h₀ : Heap) (L : Addr) (J : (PySem.Str → Option Value) → List (Addr × Obj) → Prop) (own : List (Addr × Obj)) (s₁ s₂ : Shared) : Prop :=
  ∃ h' tk m' news₂, s₂ = { s₁ with heap := h', toks := tk } ∧ Fr h₀ L h' m' ∧ News h₀ L h' (news₂ ++ own) ∧ (∀ p ∈ own, ∀ q ∈ news₂, p.1 ≠ q.1) ∧ J m' news₂
def StepPost (h₀ : Heap) (L : Addr) (J : (PySem.Str → Option Value) → List (Addr × Obj) → Prop) (own : List (Addr × Obj)) (s₁ : Shared) (Q : Flow → Shared → Prop) (f : Flow) (s₂ : Shared) : Prop :=
  match f with
  | .ret v => Q (.ret v) s₂
  | .brk => Q .next s₂
  | _ => StepTo h₀ L J own s₁ s₂

theorem loop_my {I : Addr} {fp wr : List Addr} {n : Nat} {P : Nat → Value → Prop} {St : Nat → Heap → Prop} {m₀ : PySem.Str → Option Value} {news : List (Addr × Obj)} (J : Nat → (PySem.Str → Option Value) → List (Addr × Obj) → Prop)
    (W : Walks prog w A I fp wr n P St) (hLf : env.locals ∉ fp) (hwr : ∀ b ∈ wr, h₀.get? b = none) (hlive : ∀ i h, St i h → ∀ b ∈ fp, ∃ o, h.get? b = some o) (hoff : ∀ q ∈ news, q.1 ∉ fp) (hst : St 0 s.heap) (F : Fr h₀ env.locals s.heap m₀) (N : News h₀ env.locals s.heap news) (hj : J 0 m₀ news)
    (turn : ∀ i v m₁ news₁ h tk own, i < n → P i v → J i m₁ news₁ → (∀ p ∈ own, ∀ q ∈ news₁, p.1 ≠ q.1) → Fr h₀ env.locals h (fun y => if y = x then some v else m₁ y) → News h₀ env.locals h (news₁ ++ own) →
      wpAny (model prog w) A (execs body env) (StepPost h₀ env.locals (J (i + 1)) own { s with heap := h, toks := tk } Q) E { s with heap := h, toks := tk })
    (done : ∀ m₁ news₁ h tk, J n m₁ news₁ → Fr h₀ env.locals h m₁ → News h₀ env.locals h news₁ → Q .next { s with heap := h, toks := tk }) :
    LoopAtV prog w A h₀ env x body Q E (.ref I) s := by
  refine ⟨I, fp, wr, n, P, St, m₀, news, (fun i m nx => J i m nx ∧ ∀ q ∈ nx, q.1 ∉ fp), rfl, W, hLf, hwr, (fun p hp hm => hoff p hp (W.sub _ hm)), hst, F, N, ⟨hj, hoff⟩, ?_, ?_⟩
  · rintro i v m₁ news₁ s₁ own ⟨hh, tk, rfl⟩ hin hP ⟨hJ, hoff₁⟩ _ hown _ hall hst₁ F₁ N₁
    have hsep : ∀ p ∈ own, ∀ q ∈ news₁, p.1 ≠ q.1 := fun p hp q hq e => hoff₁ q hq (e ▸ hown p hp)
    have N₂ : News h₀ env.locals hh (news₁ ++ own) := fun p hp => N₁ p ((List.mem_append.mp hp).elim (fun h => List.mem_append.mpr (.inr h)) fun h => List.mem_append.mpr (.inl h))
    have live : ∀ b ∈ fp, ∃ o, hh.get? b = some o := hlive _ _ hst₁
    refine wpAny_mono (turn i v m₁ news₁ hh tk own hin hP hJ hsep F₁ N₂) (fun f s₂ p => ?_) fun _ _ e => e
    have fin : StepTo h₀ env.locals (J (i + 1)) own { s with heap := hh, toks := tk } s₂ → LoopStepU h₀ env.locals wr own (fun m nx => J (i + 1) m nx ∧ ∀ q ∈ nx, q.1 ∉ fp) { s with heap := hh, toks := tk } .next s₂ := by
      rintro ⟨h', tk', m', news₂, e, F', N', hn, hm⟩
      have off : ∀ q ∈ news₂, q.1 ∉ fp := fun q hq hf => by
        have hq0 := (N' q (List.mem_append_left _ hq)).2.2
        obtain ⟨o, ho⟩ := live _ hf
        exact hn _ (hall _ hf hq0 o ho) q hq rfl
      exact ⟨rfl, h', tk', m', news₂, e, F', fun p hp => N' p ((List.mem_append.mp hp).elim (fun h => List.mem_append.mpr (.inr h)) fun h => List.mem_append.mpr (.inl h)), fun p hp hq => off p hp (W.sub _ hq), hm, off⟩
    cases f with
    | ret v => exact .ret p
    | brk => exact .brk p
    | next => exact .next (fin p)
    | cont => exact .cont (fin p)
  · rintro h' tk m' news' F' N' _ ⟨hJ, _⟩
    exact done m' news' h' tk hJ F' N'

/-- a tuple of the ledger -/
theorem iter_tuple {d : Addr} {o : Obj} {vs : List Value} {ep : Nat} {m₀ : PySem.Str → Option Value} {news nw : List (Addr × Obj)} (J : Nat → (PySem.Str → Option Value) → List (Addr × Obj) → Prop)
    (hh : A.handled = none) (F : Fr h₀ env.locals s.heap m₀) (N : News h₀ env.locals s.heap news) (hd : (d, o) ∈ news) (hc : o.cls = .type "tuple") (hdat : o.data = .seq vs.toArray ep) (hnw : ∀ q ∈ nw, q ∈ news ∧ q.1 ≠ d) (hj : J 0 m₀ nw)
    (turn : ∀ i v m₁ news₁ h tk own, vs[i]? = some v → J i m₁ news₁ → (∀ p ∈ own, ∀ q ∈ news₁, p.1 ≠ q.1) → Fr h₀ env.locals h (fun y => if y = x then some v else m₁ y) → News h₀ env.locals h (news₁ ++ own) →
      wpAny (model prog w) A (execs body env) (StepPost h₀ env.locals (J (i + 1)) own { s with heap := h, toks := tk } Q) E { s with heap := h, toks := tk })
    (done : ∀ m₁ news₁ h tk, J vs.length m₁ news₁ → Fr h₀ env.locals h m₁ → News h₀ env.locals h news₁ → Q .next { s with heap := h, toks := tk }) :
    wpAny (model prog w) A (pyIter (.ref d)) (fun it s₂ => LoopAtV prog w A h₀ env x body Q E it s₂) E s := by
  obtain ⟨hd1, hd2, hd3⟩ := N _ hd
  have ht : s.heap.IsTuple d vs.toArray := ⟨o, hd1, hc, ep, hdat⟩
  refine wpAny_pyIter_tuple ht ?_
  have hlt : d < s.heap.objs.size := Heap.lt_size hd1
  have W := Walks.tuple (prog := prog) (w := w) hh s.heap.objs.size d (Nat.ne_of_lt hlt) vs.toArray
  have hL : env.locals < s.heap.objs.size := F.ns.lt
  refine loop_my (n := vs.toArray.size) J W ?_ ?_ ?_ ?_ ⟨⟨_, Heap.get?_push_size _ rfl, rfl, rfl⟩, ht.at fun o e => Heap.get?_push_of_some _ e⟩ (F.push _) (fun p hp => ⟨Heap.get?_push_of_some _ (N p (hnw p hp).1).1, (N p (hnw p hp).1).2⟩) hj ?_ ?_
  · intro hm
    rcases List.mem_cons.mp hm with e | hm
    · exact absurd hL (e ▸ Nat.lt_irrefl _)
    · exact hd2 (List.mem_singleton.mp hm).symm
  · intro b hb
    rw [List.mem_singleton.mp hb]
    exact next_is_new F
  · rintro i h ⟨⟨o1, h1, _⟩, o2, h2, _⟩ b hb
    rcases List.mem_cons.mp hb with e | hb
    · exact ⟨o1, e ▸ h1⟩
    · exact ⟨o2, (List.mem_singleton.mp hb) ▸ h2⟩
  · intro q hq hf
    rcases List.mem_cons.mp hf with e | hf
    · exact absurd (Heap.lt_size (N q (hnw q hq).1).1) (e ▸ Nat.lt_irrefl _)
    · exact (hnw q hq).2 (List.mem_singleton.mp hf)
  · intro i v m₁ news₁ h tk own hi hP hJ hsep F₁ N₁
    exact turn i v m₁ news₁ h tk own (by simpa using hP) hJ hsep F₁ N₁
  · intro m₁ news₁ h tk hJ F₁ N₁
    exact done m₁ news₁ h tk (by simpa using hJ) F₁ N₁
/-- a list of the ledger -/
theorem iter_list {d : Addr} {o : Obj} {vs : List Value} {ep : Nat} {m₀ : PySem.Str → Option Value} {news nw : List (Addr × Obj)} (J : Nat → (PySem.Str → Option Value) → List (Addr × Obj) → Prop)
    (hh : A.handled = none) (F : Fr h₀ env.locals s.heap m₀) (N : News h₀ env.locals s.heap news) (hd : (d, o) ∈ news) (hc : o.cls = .type "list") (hdat : o.data = .seq vs.toArray ep) (hnw : ∀ q ∈ nw, q ∈ news ∧ q.1 ≠ d) (hj : J 0 m₀ nw)
    (turn : ∀ i v m₁ news₁ h tk own, vs[i]? = some v → J i m₁ news₁ → (∀ p ∈ own, ∀ q ∈ news₁, p.1 ≠ q.1) → Fr h₀ env.locals h (fun y => if y = x then some v else m₁ y) → News h₀ env.locals h (news₁ ++ own) →
      wpAny (model prog w) A (execs body env) (StepPost h₀ env.locals (J (i + 1)) own { s with heap := h, toks := tk } Q) E { s with heap := h, toks := tk })
    (done : ∀ m₁ news₁ h tk, J vs.length m₁ news₁ → Fr h₀ env.locals h m₁ → News h₀ env.locals h news₁ → Q .next { s with heap := h, toks := tk }) :
    wpAny (model prog w) A (pyIter (.ref d)) (fun it s₂ => LoopAtV prog w A h₀ env x body Q E it s₂) E s := by
  obtain ⟨hd1, hd2, hd3⟩ := N _ hd
  have ht : s.heap.IsList d vs.toArray := ⟨o, hd1, hc, ep, hdat⟩
  refine wpAny_pyIter_list ht ?_
  have hlt : d < s.heap.objs.size := Heap.lt_size hd1
  have W := Walks.list (prog := prog) (w := w) hh s.heap.objs.size d (Nat.ne_of_lt hlt) vs.toArray
  have hL : env.locals < s.heap.objs.size := F.ns.lt
  refine loop_my (n := vs.toArray.size) J W ?_ ?_ ?_ ?_ ⟨⟨_, Heap.get?_push_size _ rfl, rfl, rfl⟩, ht.at fun o e => Heap.get?_push_of_some _ e⟩ (F.push _) (fun p hp => ⟨Heap.get?_push_of_some _ (N p (hnw p hp).1).1, (N p (hnw p hp).1).2⟩) hj ?_ ?_
  · intro hm
    rcases List.mem_cons.mp hm with e | hm
    · exact absurd hL (e ▸ Nat.lt_irrefl _)
    · exact hd2 (List.mem_singleton.mp hm).symm
  · intro b hb
    rw [List.mem_singleton.mp hb]
    exact next_is_new F
  · rintro i h ⟨⟨o1, h1, _⟩, o2, h2, _⟩ b hb
    rcases List.mem_cons.mp hb with e | hb
    · exact ⟨o1, e ▸ h1⟩
    · exact ⟨o2, (List.mem_singleton.mp hb) ▸ h2⟩
  · intro q hq hf
    rcases List.mem_cons.mp hf with e | hf
    · exact absurd (Heap.lt_size (N q (hnw q hq).1).1) (e ▸ Nat.lt_irrefl _)
    · exact (hnw q hq).2 (List.mem_singleton.mp hf)
  · intro i v m₁ news₁ h tk own hi hP hJ hsep F₁ N₁
    exact turn i v m₁ news₁ h tk own (by simpa using hP) hJ hsep F₁ N₁
  · intro m₁ news₁ h tk hJ F₁ N₁
    exact done m₁ news₁ h tk (by simpa using hJ) F₁ N₁
/-- a text's signs -/
theorem iter_str {l : List Nat} {t : Tok} {m₀ : PySem.Str → Option Value} {news : List (Addr × Obj)} (J : Nat → (PySem.Str → Option Value) → List (Addr × Obj) → Prop)
    (hh : A.handled = none) (F : Fr h₀ env.locals s.heap m₀) (N : News h₀ env.locals s.heap news) (hj : J 0 m₀ news)
    (turn : ∀ i c u m₁ news₁ h tk own, l[i]? = some c → J i m₁ news₁ → (∀ p ∈ own, ∀ q ∈ news₁, p.1 ≠ q.1) → Fr h₀ env.locals h (fun y => if y = x then some (.str (mk [c]) u) else m₁ y) → News h₀ env.locals h (news₁ ++ own) →
      wpAny (model prog w) A (execs body env) (StepPost h₀ env.locals (J (i + 1)) own { s with heap := h, toks := tk } Q) E { s with heap := h, toks := tk })
    (done : ∀ m₁ news₁ h tk, J l.length m₁ news₁ → Fr h₀ env.locals h m₁ → News h₀ env.locals h news₁ → Q .next { s with heap := h, toks := tk }) :
    wpAny (model prog w) A (pyIter (.str (mk l) t)) (fun it s₂ => LoopAtV prog w A h₀ env x body Q E it s₂) E s := by
  have hL : env.locals < s.heap.objs.size := F.ns.lt
  have main : ∀ (o : Obj) (St : Nat → Heap → Prop), (∀ i h, St i h → ∀ b ∈ [s.heap.objs.size], ∃ o, h.get? b = some o) → (∀ A' : Around, A'.handled = none → Walks prog w A' s.heap.objs.size [s.heap.objs.size] [s.heap.objs.size] (mk l).cps.size (SignAt (mk l)) St) → St 0 (s.heap.push o) →
      LoopAtV prog w A h₀ env x body Q E (.ref s.heap.objs.size) { s with heap := s.heap.push o } := by
    intro o St hl W hst
    refine loop_my (n := (mk l).cps.size) J (W A hh) ?_ ?_ hl ?_ hst (F.push _) (fun p hp => ⟨Heap.get?_push_of_some _ (N p hp).1, (N p hp).2⟩) hj ?_ ?_
    · intro hm
      exact absurd hL ((List.mem_singleton.mp hm) ▸ Nat.lt_irrefl _)
    · intro b hb
      rw [List.mem_singleton.mp hb]
      exact next_is_new F
    · intro q hq hf
      exact absurd (Heap.lt_size (N q hq).1) ((List.mem_singleton.mp hf) ▸ Nat.lt_irrefl _)
    · rintro i v m₁ news₁ h tk own hi ⟨c, u, hc, rfl⟩ hJ hsep F₁ N₁
      exact turn i c u m₁ news₁ h tk own (by simpa [mk] using hc) hJ hsep F₁ N₁
    · intro m₁ news₁ h tk hJ F₁ N₁
      exact done m₁ news₁ h tk (by simpa [mk] using hJ) F₁ N₁
  cases ha : (mk l).cps.all (· < 128)
  · exact wpAny_pyIter_wide ha (main _ _ (fun i h st b hb => by obtain ⟨o, ho, _⟩ := st; exact ⟨o, (List.mem_singleton.mp hb) ▸ ho⟩) (fun A' hA => Walks.strWide hA _ (mk l) t) ⟨_, Heap.get?_push_size _ rfl, rfl, rfl⟩)
  · exact wpAny_pyIter_ascii ha (main _ _ (fun i h st b hb => by obtain ⟨o, ho, _⟩ := st; exact ⟨o, (List.mem_singleton.mp hb) ▸ ho⟩) (fun A' hA => Walks.strAscii hA _ (mk l) t) ⟨_, Heap.get?_push_size _ rfl, rfl, rfl⟩)
/-- a range up by ones -/
theorem iter_range {r : Addr} {a₀ b₀ : Int} {t₀ u₀ v₀ : Tok} {n : Nat} {m₀ : PySem.Str → Option Value} {news : List (Addr × Obj)} (J : Nat → (PySem.Str → Option Value) → List (Addr × Obj) → Prop)
    (hh : A.handled = none) (hr : IsRange s.heap r a₀ b₀ 1 t₀ u₀ v₀) (hsmall : Builtin.Range.small a₀ b₀ 1 = true) (hn : Builtin.Range.rangeSize a₀ b₀ 1 = (n : Int)) (F : Fr h₀ env.locals s.heap m₀) (N : News h₀ env.locals s.heap news) (hj : J 0 m₀ news)
    (turn : ∀ i t m₁ news₁ h tk own, i < n → J i m₁ news₁ → (∀ p ∈ own, ∀ q ∈ news₁, p.1 ≠ q.1) → Fr h₀ env.locals h (fun y => if y = x then some (.int (a₀ + (i : Int) * 1) t) else m₁ y) → News h₀ env.locals h (news₁ ++ own) →
      wpAny (model prog w) A (execs body env) (StepPost h₀ env.locals (J (i + 1)) own { s with heap := h, toks := tk } Q) E { s with heap := h, toks := tk })
    (done : ∀ m₁ news₁ h tk, J n m₁ news₁ → Fr h₀ env.locals h m₁ → News h₀ env.locals h news₁ → Q .next { s with heap := h, toks := tk }) :
    wpAny (model prog w) A (pyIter (.ref r)) (fun it s₂ => LoopAtV prog w A h₀ env x body Q E it s₂) E s := by
  refine wpAny_pyIter_range hr hsmall ?_
  have hL : env.locals < s.heap.objs.size := F.ns.lt
  refine loop_my (n := n) J (Walks.range hh _ a₀ 1 n) ?_ ?_ ?_ ?_ (by show IsRangeIter _ _ _ _ _; rw [hn]; simpa using Heap.get?_push_size _ rfl) (F.push _) (fun p hp => ⟨Heap.get?_push_of_some _ (N p hp).1, (N p hp).2⟩) hj ?_ ?_
  · intro hm
    exact absurd hL ((List.mem_singleton.mp hm) ▸ Nat.lt_irrefl _)
  · intro b hb
    rw [List.mem_singleton.mp hb]
    exact next_is_new F
  · intro i h st b hb
    exact ⟨_, (List.mem_singleton.mp hb) ▸ st⟩
  · intro q hq hf
    exact absurd (Heap.lt_size (N q hq).1) ((List.mem_singleton.mp hf) ▸ Nat.lt_irrefl _)
  · rintro i v m₁ news₁ h tk own hi ⟨t, rfl⟩ hJ hsep F₁ N₁
    exact turn i t m₁ news₁ h tk own hi hJ hsep F₁ N₁
  · intro m₁ news₁ h tk hJ F₁ N₁
    exact done m₁ news₁ h tk hJ F₁ N₁
/-- a range down by ones -/
theorem iter_down {r : Addr} {a₀ b₀ : Int} {t₀ u₀ v₀ : Tok} {n : Nat} {m₀ : PySem.Str → Option Value} {news : List (Addr × Obj)} (J : Nat → (PySem.Str → Option Value) → List (Addr × Obj) → Prop)
    (hh : A.handled = none) (hr : IsRange s.heap r a₀ b₀ (-1) t₀ u₀ v₀) (hsmall : Builtin.Range.small a₀ b₀ (-1) = true) (hn : Builtin.Range.rangeSize a₀ b₀ (-1) = (n : Int)) (F : Fr h₀ env.locals s.heap m₀) (N : News h₀ env.locals s.heap news) (hj : J 0 m₀ news)
    (turn : ∀ i t m₁ news₁ h tk own, i < n → J i m₁ news₁ → (∀ p ∈ own, ∀ q ∈ news₁, p.1 ≠ q.1) → Fr h₀ env.locals h (fun y => if y = x then some (.int (a₀ + (i : Int) * (-1)) t) else m₁ y) → News h₀ env.locals h (news₁ ++ own) →
      wpAny (model prog w) A (execs body env) (StepPost h₀ env.locals (J (i + 1)) own { s with heap := h, toks := tk } Q) E { s with heap := h, toks := tk })
    (done : ∀ m₁ news₁ h tk, J n m₁ news₁ → Fr h₀ env.locals h m₁ → News h₀ env.locals h news₁ → Q .next { s with heap := h, toks := tk }) :
    wpAny (model prog w) A (pyIter (.ref r)) (fun it s₂ => LoopAtV prog w A h₀ env x body Q E it s₂) E s := by
  refine wpAny_pyIter_range hr hsmall ?_
  have hL : env.locals < s.heap.objs.size := F.ns.lt
  refine loop_my (n := n) J (Walks.range hh _ a₀ (-1) n) ?_ ?_ ?_ ?_ (by show IsRangeIter _ _ _ _ _; rw [hn]; simpa using Heap.get?_push_size _ rfl) (F.push _) (fun p hp => ⟨Heap.get?_push_of_some _ (N p hp).1, (N p hp).2⟩) hj ?_ ?_
  · intro hm
    exact absurd hL ((List.mem_singleton.mp hm) ▸ Nat.lt_irrefl _)
  · intro b hb
    rw [List.mem_singleton.mp hb]
    exact next_is_new F
  · intro i h st b hb
    exact ⟨_, (List.mem_singleton.mp hb) ▸ st⟩
  · intro q hq hf
    exact absurd (Heap.lt_size (N q hq).1) ((List.mem_singleton.mp hf) ▸ Nat.lt_irrefl _)
  · rintro i v m₁ news₁ h tk own hi ⟨t, rfl⟩ hJ hsep F₁ N₁
    exact turn i t m₁ news₁ h tk own hi hJ hsep F₁ N₁
  · intro m₁ news₁ h tk hJ F₁ N₁
    exact done m₁ news₁ h tk hJ F₁ N₁
end

section
variable {h₀ h : Heap} {L : Addr} {m : PySem.Str → Option Value}
theorem fr_known (ps : List (PySem.Str × Value)) (F : Fr h₀ L h m) (hk : ∀ p ∈ ps, m p.1 = some p.2) : Fr h₀ L h (kstB m ps) := by
  have e : kstB m ps = m := funext fun z => kstB_eq hk fun _ => rfl
  rw [e]; exact F
theorem fr_known_x (ps : List (PySem.Str × Value)) {x : PySem.Str} {v : Value} (F : Fr h₀ L h (fun y => if y = x then some v else m y)) (hk : ∀ p ∈ ps, m p.1 = some p.2) : Fr h₀ L h (fun y => if y = x then some v else kstB m ps y) := by
  have e : kstB m ps = m := funext fun z => kstB_eq hk fun _ => rfl
  rw [e]; exact F
theorem all1 {α : Type} {P : α → Prop} {a : α} (h : P a) : ∀ p ∈ [a], P p := fun _ hp => (List.mem_singleton.mp hp) ▸ h
theorem all2 {α : Type} {P : α → Prop} {a b : α} (h : P a) (h2 : P b) : ∀ p ∈ [a, b], P p := List.forall_mem_cons.mpr ⟨h, all1 h2⟩
theorem all3 {α : Type} {P : α → Prop} {a b c : α} (h : P a) (h2 : P b) (h3 : P c) : ∀ p ∈ [a, b, c], P p := List.forall_mem_cons.mpr ⟨h, all2 h2 h3⟩
end

/-- values that are these texts -/
inductive Texts : List Value → List (List Nat) → Prop
  | nil : Texts [] []
  | cons (l : List Nat) (t : Tok) {vs : List Value} {ls : List (List Nat)} : Texts vs ls → Texts (.str (mk l) t :: vs) (l :: ls)
theorem Texts.length {vs : List Value} {ls : List (List Nat)} (h : Texts vs ls) : vs.length = ls.length := by
  induction h with
  | nil => rfl
  | cons l t _ ih => simp [ih]
theorem Texts.get {vs : List Value} {ls : List (List Nat)} (h : Texts vs ls) : ∀ {i : Nat} {v : Value}, vs[i]? = some v → ∃ l t, ls[i]? = some l ∧ v = .str (mk l) t := by
  induction h with
  | nil => intro i v e; simp at e
  | cons l t _ ih =>
    intro i v e
    cases i with
    | zero => simp at e; exact ⟨l, t, rfl, e.symm⟩
    | succ i => simpa using ih (i := i) (v := v) (by simpa using e)
theorem Texts.at {vs : List Value} {ls : List (List Nat)} (h : Texts vs ls) {i : Nat} {l : List Nat} (e : ls[i]? = some l) : ∃ t, vs[i]? = some (.str (mk l) t) := by
  have hi : i < vs.length := by rw [h.length]; exact (List.getElem?_eq_some_iff.mp e).1
  obtain ⟨l', t, e', hv⟩ := h.get (i := i) (v := vs[i]) (by simp [hi])
  rw [e] at e'; cases e'
  exact ⟨t, by simp [hi, hv]⟩
theorem Texts.snoc {vs : List Value} {ls : List (List Nat)} (h : Texts vs ls) (l : List Nat) (t : Tok) : Texts (vs ++ [.str (mk l) t]) (ls ++ [l]) := by
  induction h with
  | nil => exact .cons l t .nil
  | cons l' t' _ ih => exact .cons l' t' ih
theorem Texts.last {vs : List Value} {ls : List (List Nat)} (h : Texts vs ls) : (vs = [] ∧ ls = []) ∨ ∃ us ks l t, vs = us ++ [.str (mk l) t] ∧ ls = ks ++ [l] ∧ Texts us ks := by
  induction h with
  | nil => exact .inl ⟨rfl, rfl⟩
  | cons l t h ih =>
    rcases ih with ⟨rfl, rfl⟩ | ⟨us, ks, l', t', rfl, rfl, h'⟩
    · exact .inr ⟨[], [], l, t, rfl, rfl, .nil⟩
    · exact .inr ⟨_, _, l', t', rfl, rfl, .cons l t h'⟩
theorem Texts.of_strs : ∀ {l : List (PySem.Str × Tok)} {ls : List (List Nat)}, l.map (·.1) = ls.map mk → Texts (strValues l) ls
  | [], [], _ => .nil
  | [], _ :: _, h => by simp at h
  | _ :: _, [], h => by simp at h
  | (x, t) :: r, l :: ls, h => by
    simp only [List.map_cons, List.cons.injEq] at h
    obtain ⟨rfl, h⟩ := h
    exact .cons l t (Texts.of_strs h)
theorem head_addr {h₀ h : Heap} {L d : Addr} {o : Obj} {r : List (Addr × Obj)} (_ : News h₀ L h ((d, o) :: r)) : ∃ d', d' = d := ⟨d, rfl⟩
theorem lt_of_all {d : Addr} : ∀ {l : List (Addr × Obj)}, AllLt d l → ∀ p ∈ l, p.1 < d
  | [], _, _, h => nomatch h
  | q :: r, h, p, hp => by
    rcases List.mem_cons.mp hp with rfl | hp
    · exact h.1
    · exact lt_of_all h.2 p hp
theorem all4 {α : Type} {P : α → Prop} {a b c d : α} (h : P a) (h2 : P b) (h3 : P c) (h4 : P d) : ∀ p ∈ [a, b, c, d], P p := List.forall_mem_cons.mpr ⟨h, all3 h2 h3 h4⟩
theorem all5 {α : Type} {P : α → Prop} {a b c d e : α} (h : P a) (h2 : P b) (h3 : P c) (h4 : P d) (h5 : P e) : ∀ p ∈ [a, b, c, d, e], P p := List.forall_mem_cons.mpr ⟨h, all4 h2 h3 h4 h5⟩
theorem Texts.strs {vs : List Value} {ls : List (List Nat)} (h : Texts vs ls) : StrsAre vs (ls.map mk) := by
  induction h with
  | nil => exact .nil
  | cons l t _ ih => exact .cons (mk l) t ih
theorem mk_lens (ls : List (List Nat)) : ((ls.map mk).map (·.length)) = ls.map List.length := by
  rw [List.map_map]
  exact List.map_congr_left fun l _ => mk_len l
theorem joinL_len : ∀ ls : List (List Nat), (ls.map List.length).sum ≤ (joinL ls).length
  | [] => by simp
  | [x] => by simp [joinL]
  | x :: y :: r => by
    have := joinL_len (y :: r)
    show x.length + ((y :: r).map List.length).sum ≤ (x ++ 47 :: joinL (y :: r)).length
    rw [List.length_append, List.length_cons]; omega
theorem sum_dropLast (ls : List (List Nat)) : (ls.dropLast.map List.length).sum ≤ (ls.map List.length).sum := by
  rcases List.eq_nil_or_concat ls with rfl | ⟨r, a, rfl⟩
  · simp
  · simp
section
variable {w : World} {A : Around} {E : Value → Shared → Prop} {s : Shared} {h₀ : Heap} {L d : Addr} {m : PySem.Str → Option Value} {nw : List (Addr × Obj)}
theorem join_head {vs : List Value} {ls : List (List Nat)} {n : Nat} {x : PySem.Str} {t : Tok} {Q : Value → Shared → Prop} (hx : x = mk [47]) (N : News h₀ L s.heap ((d, W.listOf vs.toArray n) :: nw)) (ht : Texts vs ls) (hz : (ls.map List.length).sum ≤ 1000000) (hz2 : ls.length ≤ 1000000)
    (h : ∀ t' k, Q (.str (mk (joinL ls)) t') { s with toks := k }) : wpAny (model PySem.Challenge.rw_il0084_01.row.prog w) A (call (.builtin "str.join") [.str x t, .ref d]) Q E s := by
  subst hx
  have hl : s.heap.IsList d vs.toArray := ⟨_, (N _ (List.mem_cons_self ..)).1, rfl, n, rfl⟩
  refine join_list hl (ys := ls.map mk) ht.strs (by rw [mk_lens, mk_len, List.length_map]; simp; omega) ?_
  rw [join_mk]; exact h
end
theorem len_le_sum {ls : List (List Nat)} {l : List Nat} (h : l ∈ ls) : l.length ≤ (ls.map List.length).sum := by
  induction ls with
  | nil => exact nomatch h
  | cons x r ih =>
    rcases List.mem_cons.mp h with rfl | h
    · simp
    · have := ih h
      simp; omega
section
variable {w : World} {A : Around} {E : Value → Shared → Prop} {s : Shared} {h₀ : Heap} {L d : Addr} {m : PySem.Str → Option Value} {nw : List (Addr × Obj)}
theorem pop_head {us : List Value} {v : Value} {n : Nat} {Q : Value → Shared → Prop} (F : Fr h₀ L s.heap m) (N : News h₀ L s.heap ((d, W.listOf (us ++ [v]).toArray n) :: nw)) (hoff : ∀ q ∈ nw, q.1 ≠ d) (hz : us.length ≤ 10000000)
    (h : ∀ h', Fr h₀ L h' m → News h₀ L h' ((d, W.listOf us.toArray (n + 1)) :: nw) → Q v { s with heap := h' }) : wpAny (model PySem.Challenge.rw_il0084_01.row.prog w) A (call (.builtin "list.pop") [.ref d]) Q E s :=
  kl_pop F N (by simpa using kpa_last v us) (.head hoff) (by rw [PySem.sizeLine_eq]; simp; omega) h
end
theorem Texts.snoc_of {vs : List Value} {ls : List (List Nat)} {l : List Nat} {x : PySem.Str} {t : Tok} (h : Texts vs ls) (e : x = mk l) : Texts (vs ++ [.str x t]) (ls ++ [l]) := by
  subst e; exact h.snoc l t
theorem flatten_mk : ∀ ls : List (List Nat), Txt.join (mk []) (ls.map mk) = mk ls.flatten
  | [] => rfl
  | [x] => by
    unfold Txt.join
    rw [StrLaws.glued_eq_join]
    show mk x = _
    simp
  | x :: y :: r => by
    have ih := flatten_mk (y :: r)
    unfold Txt.join at ih ⊢
    rw [StrLaws.glued_eq_join] at ih ⊢
    show mk x ++ mk [] ++ Str.join (mk []) ((y :: r).map mk) = _
    rw [ih, mk_append, mk_append]; simp
section
variable {w : World} {A : Around} {E : Value → Shared → Prop} {s : Shared} {h₀ : Heap} {L d : Addr} {nw : List (Addr × Obj)}
theorem cat_head {vs : List Value} {ls : List (List Nat)} {n : Nat} {x : PySem.Str} {t : Tok} {Q : Value → Shared → Prop} (hx : x = mk []) (N : News h₀ L s.heap ((d, W.listOf vs.toArray n) :: nw)) (ht : Texts vs ls) (hz : (ls.map List.length).sum ≤ 1000000)
    (h : ∀ t' k, Q (.str (mk ls.flatten) t') { s with toks := k }) : wpAny (model PySem.Challenge.rw_il0084_01.row.prog w) A (call (.builtin "str.join") [.str x t, .ref d]) Q E s := by
  subst hx
  have hl : s.heap.IsList d vs.toArray := ⟨_, (N _ (List.mem_cons_self ..)).1, rfl, n, rfl⟩
  refine join_list hl (ys := ls.map mk) ht.strs (by rw [mk_lens, mk_len, List.length_map]; simp; omega) ?_
  rw [flatten_mk]; exact h
end
end Mine
end

section
open PySem PySem.W PyProof.Rows PySem.Calls
set_option Elab.async false
set_option maxRecDepth 100000
set_option maxHeartbeats 0
namespace Mine
local macro_rules | `(tactic| size_fits) => `(tactic| (rw [PySem.sizeLine_eq]; (try simp only [mk_len]); omega))
local macro_rules | `(tactic| walk_at "call ref") => `(tactic| (k_here; (first | refine' Cl.use (c_fspath _ _ _ _ _ _) ?k1 ?k2 ?k3 ?k4 ?k5 ?kK ?kp ?kd ?ku ?_ | refine' Cl.use (c_get_sep _ _ _ _ _ _) ?k1 ?k2 ?k3 ?k4 ?k5 ?kK ?kp ?kd ?ku ?_); (case k1 => k_asm); (case k2 => k_asm); (case k3 => k_asm); (case k4 => k_asm); (case k5 => k_asm); (case kK => exact rfl); (case kp => first | trivial | assumption); (case kd => first | omega | (dsimp only [Around.deeper, ktrTop]; omega)); (case ku => first | omega | (dsimp only [Around.deeper, ktrTop]; omega)); k_whole; intro t9 h9 tk9 F9 N9; (try dsimp only); (try k_fold)))
section
variable {w : World} {A : Around} {E : Value → Shared → Prop} {s : Shared}
theorem starts_mk {l : List Nat} {c : Nat} {t u : Tok} {Q : Value → Shared → Prop} (h : Q (.bool (decide (l.head? = some c))) s) : wpAny (model PySem.Challenge.rw_il0084_01.row.prog w) A (call (.builtin "str.startswith") [.str (mk l) t, .str (mk [c]) u]) Q E s :=
  SC.startswith (by rw [startswith_mk]; exact h)
theorem ends_mk {l : List Nat} {c : Nat} {t u : Tok} {Q : Value → Shared → Prop} (h : Q (.bool (decide (l.getLast? = some c))) s) : wpAny (model PySem.Challenge.rw_il0084_01.row.prog w) A (call (.builtin "str.endswith") [.str (mk l) t, .str (mk [c]) u]) Q E s :=
  SC.endswith (by rw [endswith_mk]; exact h)
theorem add_mk {a b : List Nat} {t u : Tok} {Q : Value → Shared → Prop} (hz : a.length + b.length ≤ 10000000) (h : ∀ t' tk, Q (.str (mk (a ++ b)) t') { s with toks := tk }) : wpAny (model PySem.Challenge.rw_il0084_01.row.prog w) A (binaryOp .Add (.str (mk a) t) (.str (mk b) u)) Q E s :=
  add_str (by rw [mk_append]; exact h) (by rw [mk_len, mk_len, PySem.sizeLine_eq]; omega)
theorem iadd_mk {a b : List Nat} {t u : Tok} {Q : Value → Shared → Prop} (hz : a.length + b.length ≤ 10000000) (h : ∀ t' tk, Q (.str (mk (a ++ b)) t') { s with toks := tk }) : wpAny (model PySem.Challenge.rw_il0084_01.row.prog w) A (inplaceOp .Add (.str (mk a) t) (.str (mk b) u)) Q E s :=
  iadd_str (by rw [mk_append]; exact h) (by rw [mk_len, mk_len, PySem.sizeLine_eq]; omega)
end
local macro_rules | `(tactic| walk_at "binaryOp Add str str") => `(tactic| (refine add_mk (by (try simp only [List.length_append, List.length_cons, List.length_nil]); omega) ?_; intro _ _))
local macro_rules | `(tactic| walk_at "inplaceOp Add str str") => `(tactic| (refine iadd_mk (by (try simp only [List.length_append, List.length_cons, List.length_nil]); omega) ?_; intro _ _))
local macro_rules | `(tactic| walk_at "truthy str") => `(tactic| (refine truthy_mk (by (try simp only [List.length_append, List.length_cons, List.length_nil]); omega) ?_))
local macro_rules | `(tactic| walk_at "call builtin:str.startswith") => `(tactic| (refine starts_mk ?_))
local macro_rules | `(tactic| walk_at "call builtin:str.endswith") => `(tactic| (refine ends_mk ?_))
theorem c_join (w : World) (mean : ExcName → Option Value) (mg mb : PySem.Str → Option Value) (la lb : List Nat) (ta tb : Tok) : Cl w mean mg mb 157 2 24 (la ≠ [] ∧ lb.head? ≠ some 47 ∧ la.length ≤ 200000 ∧ lb.length ≤ 200000) [.str (mk la) ta, .str (mk lb) tb]
    (fun t' => .str (mk (if la.getLast? = some 47 then la ++ lb else la ++ [47] ++ lb)) t') := by
  unfold Cl
  k_fill
  intro dp un gd cn cs a ccd cl outer A₀ base h₀ L m news s Q E B F X N T hk pre hd hu hret
  obtain ⟨hne, hb, hla, hlb⟩ := pre
  refine wpAny_call ?_
  k_dflt (refine' kp_rest ?k1 ?k2 ?k3 ?k4 ?k5 ?kA ?kF ?kK ?k6 ?k7 ?k8 ?kV ?kP ?kG ?kB ?_ ?c2 ?c3 ?c4 ?c5; (case kA => exact rfl); (case kF => exact rfl); (case kK => assumption); (case k1 => k_asm); (case k2 => k_asm); (case k3 => k_asm); (case k4 => k_asm); (case k5 => k_asm); (case k6 => k_is); (case k7 => k_is); (case k8 => ktr_room); (case kV => kl_lit); (case kP => exact rfl); (case kG => exact fun _ => rfl); (case kB => exact fun _ => locs rfl); (case c5 => decide); (case c2 => exact rfl); (case c3 => exact rfl); (case c4 => exact rfl); k_whole; intro D' g' L' h' l1 FG' F' N' B' X' T'; (try k_lt l1); (try dsimp only); (try k_lift B'); (try k_fold))
  k_steps
  (rename Fr _ _ _ _ => lF')
  with_unfolding_all refine For_invVF lF' rfl rfl ?_
  walk1
  refine iter_tuple (vs := [.str (mk lb) tb]) (nw := news) (fun i m nx => nx = news ∧ match i with | 0 => (∃ t1, m (PySem.Str.ofString "path") = some (.str (mk la) t1)) ∧ (∃ t2, m (PySem.Str.ofString "sep") = some (.str (mk [47]) t2)) | _ + 1 => ∃ t', m (PySem.Str.ofString "path") = some (.str (mk (if la.getLast? = some 47 then la ++ lb else la ++ [47] ++ lb)) t'))
    rfl (by k_asm) (by k_asm) (List.mem_cons_self ..) rfl rfl ?_ ⟨rfl, ⟨_, rfl⟩, ⟨_, rfl⟩⟩ ?_ ?_
  · exact fun q hq => ⟨List.mem_cons_of_mem _ hq, Nat.ne_of_lt (l1 q hq)⟩
  · intro i v m₁ news₁ h tk own hv hJ hsep F₁ N₁
    obtain ⟨rfl, hJ⟩ := hJ
    match i, hv with
    | 0, hv =>
      obtain rfl : Value.str (mk lb) tb = v := by simpa using hv
      obtain ⟨⟨t1, h1⟩, ⟨t2, h2⟩⟩ := hJ
      replace F₁ := fr_known_x [(PySem.Str.ofString "path", _), (PySem.Str.ofString "sep", _)] F₁ (all2 h1 h2)
      dsimp only [kstB] at F₁
      k_steps
      · refine ⟨_, _, _, news₁, rfl, (by k_asm), (by k_asm), hsep, rfl, ?_⟩
        rw [if_pos (by assumption : la.getLast? = some 47)]; exact ⟨_, rfl⟩
      · refine ⟨_, _, _, news₁, rfl, (by k_asm), (by k_asm), hsep, rfl, ?_⟩
        rw [if_neg (by assumption : ¬ la.getLast? = some 47), List.append_assoc]; exact ⟨_, rfl⟩
    | n + 1, hv => simp at hv
  · intro m₁ news₁ h tk hJ F₁ N₁
    obtain ⟨rfl, t', ht⟩ := hJ
    replace F₁ := fr_known [(PySem.Str.ofString "path", _)] F₁ (all1 ht)
    dsimp only [kstB] at F₁
    k_steps
    exact cb_retS hret rfl (by k_asm) (by k_asm)
end Mine
end

section
open PySem PySem.W PyProof.Rows PySem.Calls
set_option Elab.async false
set_option maxRecDepth 100000
set_option maxHeartbeats 0
namespace Mine
section
variable {w : World} {A : Around} {E : Value → Shared → Prop} {s : Shared} {h₀ : Heap} {L : Addr} {m : PySem.Str → Option Value} {news : List (Addr × Obj)} {value slice : PySem.Expr} {x y : PySem.Str} {t : Tok} {Q : Value → Shared → Prop}
theorem sl_sn {i : Int} {ui : Tok} (e : Txt.slice x (some i) none = y) (hF : Fr h₀ L s.heap m) (hN : News h₀ L s.heap news) (h : ∀ h' t' k, Fr h₀ L h' m → News h₀ L h' news → Q (.str y t') { s with heap := h', toks := k })
    (hs : subscripted slice false (.str x t) (.ref s.heap.objs.size) = operate [.ref s.heap.objs.size, .str x t] (getItem (.str x t) (.ref s.heap.objs.size)) := by with_unfolding_all rfl)
    (ht : ∀ r, letTemporaryGo value (.str x t) r = pure () := by intro _; with_unfolding_all rfl) (hsz : x.length ≤ sizeLine := by size_fits) :
    wpAny (model PySem.Challenge.rw_il0084_01.row.prog w) A (subscriptTail value slice (.str x t) (.ref s.heap.objs.size)) Q E { s with heap := s.heap.push { cls := .type "slice", data := .fields #[.int i ui, .none, .none] } } := by
  subst e; exact slice_strN_sn hF hN h hs ht hsz
theorem sl_ss {i j : Int} {ui uj : Tok} (e : Txt.slice x (some i) (some j) = y) (hF : Fr h₀ L s.heap m) (hN : News h₀ L s.heap news) (h : ∀ h' t' k, Fr h₀ L h' m → News h₀ L h' news → Q (.str y t') { s with heap := h', toks := k })
    (hs : subscripted slice false (.str x t) (.ref s.heap.objs.size) = operate [.ref s.heap.objs.size, .str x t] (getItem (.str x t) (.ref s.heap.objs.size)) := by with_unfolding_all rfl)
    (ht : ∀ r, letTemporaryGo value (.str x t) r = pure () := by intro _; with_unfolding_all rfl) (hsz : x.length ≤ sizeLine := by size_fits) :
    wpAny (model PySem.Challenge.rw_il0084_01.row.prog w) A (subscriptTail value slice (.str x t) (.ref s.heap.objs.size)) Q E { s with heap := s.heap.push { cls := .type "slice", data := .fields #[.int i ui, .int j uj, .none] } } := by
  subst e; exact slice_strN_ss hF hN h hs ht hsz
theorem cut_to1 {a c : Nat} {r : List Nat} : Txt.slice (mk (a :: c :: r)) none (some 1) = mk [a] := slice_to (a :: c :: r) 1 (by simp)
theorem cut_12 {a c : Nat} {r : List Nat} : Txt.slice (mk (a :: c :: r)) (some 1) (some 2) = mk [c] := slice_ft (a :: c :: r) 1 2 (by omega) (by simp)
theorem cut_from1 {a : Nat} {r : List Nat} : Txt.slice (mk (a :: r)) (some 1) none = mk r := slice_from (a :: r) 1 (by simp)
end
section
variable {w : World} {A : Around} {E : Value → Shared → Prop} {s : Shared} {h₀ : Heap} {L d : Addr} {m : PySem.Str → Option Value} {nw : List (Addr × Obj)}
theorem truthy_head {vs : List Value} {n : Nat} {Q : Bool → Shared → Prop} (N : News h₀ L s.heap ((d, W.listOf vs.toArray n) :: nw)) (hz : vs.length ≤ 10000000) (h : Q (decide (vs ≠ [])) { s with toks := s.toks + 1 + 1 }) :
    wpAny (model PySem.Challenge.rw_il0084_01.row.prog w) A (truthy (.ref d)) Q E s := by
  have hl : s.heap.IsList d vs.toArray := ⟨_, (N _ (List.mem_cons_self ..)).1, rfl, n, rfl⟩
  refine wpAny_truthy_list hl (by simp only [List.size_toArray]; omega) ?_
  have e : (!vs.toArray.isEmpty) = decide (vs ≠ []) := by cases vs <;> simp
  rw [e]; exact h
theorem last_head {value slice : PySem.Expr} {us : List Value} {v : Value} {n : Nat} {u : Tok} {Q : Value → Shared → Prop} (N : News h₀ L s.heap ((d, W.listOf (us ++ [v]).toArray n) :: nw)) (hz : us.length ≤ 10000000) (h : Q v s)
    (hs : subscripted slice false (.ref d) (.int (-1) u) = operate [.ref d, .int (-1) u] (getItem (.ref d) (.int (-1) u)) := by with_unfolding_all rfl) :
    wpAny (model PySem.Challenge.rw_il0084_01.row.prog w) A (subscriptTail value slice (.ref d) (.int (-1) u)) Q E s := by
  have hl : s.heap.IsList d (us ++ [v]).toArray := ⟨_, (N _ (List.mem_cons_self ..)).1, rfl, n, rfl⟩
  have hsz : ((us ++ [v]).toArray.size : Int) = us.length + 1 := by simp
  refine tail_any hl.typeIs slot_list_getitem.lookup (wpAny_getItem_list_neg hl (by decide) (by rw [hsz]; omega) (by decide) ?_ h) hs
  rw [hsz, show ((-1 : Int) + (us.length + 1)).toNat = us.length by omega]
  simp
theorem eq_no {a b : List Nat} {x y : PySem.Str} {t u : Tok} {Q : Value → Shared → Prop} (ha : x = mk a) (hb : y = mk b) (hab : a ≠ b) (h : Q (.bool false) s) : wpAny (model PySem.Challenge.rw_il0084_01.row.prog w) A (compareOp .Eq (.str x t) (.str y u)) Q E s := by
  subst ha hb
  refine eq_str ?_
  rw [mk_beq, decide_eq_false hab]; exact h
end
section
variable {w : World} {A : Around} {E : Value → Shared → Prop} {s : Shared} {h₀ : Heap} {L : Addr} {m : PySem.Str → Option Value} {news : List (Addr × Obj)}
theorem split_rule {ls : List (List Nat)} {l : List Nat} {y : PySem.Str} {t u : Tok} {Q : Value → Shared → Prop} (hj : joinL ls = l) (hls : ls ≠ []) (hf : ∀ p ∈ ls, 47 ∉ p) (hy : y = mk [47]) (F : Fr h₀ L s.heap m) (N : News h₀ L s.heap news) (hz : l.length ≤ 10000000)
    (h : ∀ D vs h' k, Texts vs ls → Fr h₀ L h' m → News h₀ L h' ((D, { cls := .type "list", data := .seq vs.toArray }) :: news) → (∀ q ∈ news, q.1 < D) → Q (.ref D) { s with heap := h', toks := k }) :
    wpAny (model PySem.Challenge.rw_il0084_01.row.prog w) A (call (.builtin "str.split") [.str (mk l) t, .str y u]) Q E s := by
  subst hy
  refine splitN1A F N (by rw [mk_len]; rfl) (fun ls' h' k e _ _ _ F' N' => ?_) (by rw [mk_len, PySem.sizeLine_eq]; omega)
  rw [← hj, split_mk ls hls hf] at e
  exact h _ _ h' k (Texts.of_strs e) F' N' fun q hq => Heap.lt_size (N q hq).1
end
local macro_rules | `(tactic| walk_at "call builtin:str.split") => `(tactic| k_dflt ((with_reducible rename Fr _ _ _ _ => F'); (with_reducible rename News _ _ _ _ => N'); (refine split_rule (by assumption) (by assumption) (by assumption) (by decide +kernel) F' N' (by assumption) ?_); intro D' vs' h' k' htx' F' N' l1'; (try k_lt l1')))
local macro_rules | `(tactic| walk_at "call builtin:str.join") => `(tactic| k_dflt (refine join_head (by decide +kernel) (by assumption) (by assumption) (by omega) (by omega) ?_; intro _ _))
local macro_rules | `(tactic| walk_at "call builtin:list.pop") => `(tactic| k_dflt ((with_reducible rename Fr _ _ _ _ => F'); (with_reducible rename News _ _ _ _ => N'); (refine pop_head F' N' (by assumption) (by omega) ?_); intro h' F' N'))
local macro_rules | `(tactic| walk_at "binaryOp Add str str") => `(tactic| k_dflt (refine add_mk (by (try simp only [List.length_append, List.length_cons, List.length_nil]); omega) ?_; intro _ _))
local macro_rules | `(tactic| k_all) => `(tactic| assumption)
local macro_rules | `(tactic| walk_at "truthy ref") => `(tactic| k_dflt (refine' truthy_head (by assumption) (by assumption) ?_))
local macro_rules | `(tactic| walk_at "subscriptTail Name UnaryOp ref int") => `(tactic| k_dflt (refine last_head (by assumption) (by assumption) ?_))
local macro_rules | `(tactic| size_fits) => `(tactic| (rw [PySem.sizeLine_eq]; (try simp only [mk_len, List.length_append, List.length_cons, List.length_nil]); omega))
local macro_rules | `(tactic| walk_at "call ref") => `(tactic| (k_here; k_dflt (first | refine' Cl.use (c_fspath _ _ _ _ _ _) ?k1 ?k2 ?k3 ?k4 ?k5 ?kK ?kp ?kd ?ku ?_ | refine' Cl.use (c_get_sep _ _ _ _ _ _) ?k1 ?k2 ?k3 ?k4 ?k5 ?kK ?kp ?kd ?ku ?_); k_dflt ((case k1 => k_asm); (case k2 => k_asm); (case k3 => k_asm); (case k4 => k_asm); (case k5 => k_asm); (case kK => exact rfl); (case kp => first | trivial | assumption); (case kd => first | omega | (dsimp only [Around.deeper, ktrTop]; omega)); (case ku => first | omega | (dsimp only [Around.deeper, ktrTop]; omega)); k_whole; intro t9 h9 tk9 F9 N9; (try dsimp only); (try k_fold))))
local macro_rules | `(tactic| k_room) => `(tactic| ktr_room)
local macro_rules | `(tactic| walk_at "truthy str") => `(tactic| (refine truthy_mk (by (try simp only [List.length_append, List.length_cons, List.length_nil]); omega) ?_))
local macro_rules | `(tactic| walk_at "subscriptTail Name Slice str ref") => `(tactic| ((with_reducible show wpAny _ _ (subscriptTail _ (Expr.Slice none (some _) none _) _ _) _ _ _); (with_reducible rename Fr _ _ _ _ => F'); (with_reducible rename News _ _ _ _ => N'); (refine sl_ns (s := ⟨_, _, _, _, _⟩) cut_to1 F' N' ?_); intro _ _ _ _ _))
local macro_rules | `(tactic| walk_at "subscriptTail Name Slice str ref") => `(tactic| ((with_reducible show wpAny _ _ (subscriptTail _ (Expr.Slice (some _) (some _) none _) _ _) _ _ _); (with_reducible rename Fr _ _ _ _ => F'); (with_reducible rename News _ _ _ _ => N'); (refine sl_ss (s := ⟨_, _, _, _, _⟩) cut_12 F' N' ?_); intro _ _ _ _ _))
local macro_rules | `(tactic| walk_at "subscriptTail Name Slice str ref") => `(tactic| ((with_reducible show wpAny _ _ (subscriptTail _ (Expr.Slice (some _) none none _) _ _) _ _ _); (with_reducible rename Fr _ _ _ _ => F'); (with_reducible rename News _ _ _ _ => N'); (refine sl_sn (s := ⟨_, _, _, _, _⟩) cut_from1 F' N' ?_); intro _ _ _ _ _))
theorem ne_true {w : World} {A : Around} {E : Value → Shared → Prop} {s : Shared} {a b : List Nat} {x y : PySem.Str} {t u : Tok} {Q : Value → Shared → Prop} (ha : x = mk a) (hb : y = mk b) (hab : a ≠ b) (h : Q (.bool true) s) : wpAny (model PySem.Challenge.rw_il0084_01.row.prog w) A (compareOp .NotEq (.str x t) (.str y u)) Q E s := by
  subst ha hb; refine ne_mk ?_; rw [decide_eq_true hab]; exact h
theorem ne_same {w : World} {A : Around} {E : Value → Shared → Prop} {s : Shared} {a : List Nat} {x y : PySem.Str} {t u : Tok} {Q : Value → Shared → Prop} (ha : x = mk a) (hb : y = mk a) (h : Q (.bool false) s) : wpAny (model PySem.Challenge.rw_il0084_01.row.prog w) A (compareOp .NotEq (.str x t) (.str y u)) Q E s := by
  subst ha hb; refine ne_mk ?_; rw [decide_eq_false (by simp)]; exact h
local macro_rules | `(tactic| walk_at "compareOp Eq str str") => `(tactic| k_dflt (first | refine eq_no (b := [46]) rfl (by decide +kernel) (by first | assumption | decide) ?_ | refine eq_no (b := [46, 46]) rfl (by decide +kernel) (by first | assumption | decide) ?_))
local macro_rules | `(tactic| walk_at "compareOp NotEq str str") => `(tactic| k_dflt (first | refine ne_true (b := [47]) rfl (by decide +kernel) (by assumption) ?_ | refine ne_true (b := [46, 46]) rfl (by decide +kernel) (by assumption) ?_ | refine ne_same (a := [46, 46]) rfl (by decide +kernel) ?_ | refine ne_same (a := [47]) rfl (by decide +kernel) ?_))
theorem joinL_le : ∀ ls : List (List Nat), (joinL ls).length ≤ (ls.map List.length).sum + ls.length
  | [] => by simp [joinL]
  | [x] => by simp [joinL]
  | x :: y :: r => by
    have := joinL_le (y :: r)
    show (x ++ 47 :: joinL (y :: r)).length ≤ x.length + ((y :: r).map List.length).sum + ((y :: r).length + 1)
    rw [List.length_append, List.length_cons]; omega
theorem c_normpath (w : World) (mean : ExcName → Option Value) (mg mb : PySem.Str → Option Value) (c : Nat) (r : List Nat) (cs : List (List Nat)) (t : Tok) : Cl w mean mg mb 185 3 40 (c ≠ 47 ∧ joinL (cs ++ [[46, 46]]) = c :: r ∧ (∀ p ∈ cs, p ≠ [] ∧ p ≠ [46] ∧ p ≠ [46, 46] ∧ 47 ∉ p) ∧ r.length ≤ 100000 ∧ cs.length ≤ 1000) [.str (mk (47 :: c :: r)) t]
    (fun t' => .str (mk (47 :: joinL cs.dropLast)) t') := by
  unfold Cl
  k_fill
  intro dp un gd cn cs' a ccd cl outer A₀ base h₀ L m news s Q E B F X N T hk pre hd hu hret
  obtain ⟨hc, hj, hcs, hlen, hcl⟩ := pre
  have hc1 : [c] ≠ [47] := by simpa using hc
  have hp1 : cs ++ [[46, 46]] ≠ [] := by simp
  have hp2 : ∀ p ∈ cs ++ [[46, 46]], 47 ∉ p := by
    intro p hp
    rcases List.mem_append.mp hp with h1 | h1
    · exact (hcs p h1).2.2.2
    · rw [List.mem_singleton.mp h1]; decide
  have hz1 : (c :: r).length ≤ 10000000 := by simp; omega
  refine wpAny_call ?_
  k_dflt cell_enter
  k_steps
  · (rename Texts _ _ => htx)
    (rename _ ∧ AllLt _ news => hlt0)
    (rename Fr _ _ _ _ => lF')
    (rename News _ _ _ _ => lN')
    (rename _ ∧ _ ∧ AllLt _ _ => hlt)
    have hltA := lt_of_all hlt0.2
    have hltB := lt_of_all hlt.2.2
    obtain ⟨d, hd'⟩ := head_addr lN'
    subst hd'
    with_unfolding_all refine For_invVF lF' rfl rfl ?_
    walk1
    refine iter_list (vs := _) (nw := (d, W.listOf [].toArray 0) :: news) (fun i m nx => ∃ vs n, nx = (d, W.listOf vs.toArray n) :: news ∧ Texts vs (if i ≤ cs.length then cs.take i else cs.dropLast) ∧ m (PySem.Str.ofString "new_comps") = some (.ref d) ∧
      (∃ t, m (PySem.Str.ofString "dot") = some (.str (PySem.Str.ofString ".") t)) ∧ (∃ t, m (PySem.Str.ofString "dotdot") = some (.str (PySem.Str.ofString "..") t)) ∧ (∃ t, m (PySem.Str.ofString "initial_slashes") = some (.str (mk [47]) t)) ∧ (∃ t, m (PySem.Str.ofString "sep") = some (.str (PySem.Str.ofString "/") t)))
      rfl lF' lN' (List.mem_cons_of_mem _ (List.mem_cons_self ..)) rfl rfl ?_ ⟨[], 0, rfl, .nil, rfl, ⟨_, rfl⟩, ⟨_, rfl⟩, ⟨_, rfl⟩, ⟨_, rfl⟩⟩ ?_ ?_
    · intro q hq
      rcases List.mem_cons.mp hq with rfl | hq
      · exact ⟨List.mem_cons_self .., Nat.ne_of_gt hlt.1⟩
      · exact ⟨List.mem_cons_of_mem _ (List.mem_cons_of_mem _ (List.mem_cons_of_mem _ hq)), Nat.ne_of_lt (hltA q hq)⟩
    · have hsum : (cs.map List.length).sum ≤ 1000000 := by
        have e2 := joinL_len (cs ++ [[46, 46]])
        rw [hj] at e2
        simp at e2; omega
      intro i v m₁ news₁ h tk own hv hJ hsep F₁ N₁
      obtain ⟨vs, n, rfl, htv, hnc, ⟨t1, h1⟩, ⟨t2, h2⟩, ⟨t3, h3⟩, ⟨t4, h4⟩⟩ := hJ
      obtain ⟨p, tp, hp, rfl⟩ := htx.get hv
      have hoff : ∀ q ∈ news ++ own, q.1 ≠ d := by
        intro q hq
        rcases List.mem_append.mp hq with hq | hq
        · exact Nat.ne_of_lt (hltB q hq)
        · exact hsep q hq _ (List.mem_cons_self ..)
      have hsep' : ∀ o, ∀ p ∈ own, ∀ q ∈ (d, o) :: news, p.1 ≠ q.1 := by
        intro o p hp q hq
        rcases List.mem_cons.mp hq with rfl | hq
        · exact hsep p hp (d, W.listOf vs.toArray n) (List.mem_cons_self ..)
        · exact hsep p hp q (List.mem_cons_of_mem _ hq)
      replace F₁ := fr_known_x [(PySem.Str.ofString "new_comps", _), (PySem.Str.ofString "dot", _), (PySem.Str.ofString "dotdot", _), (PySem.Str.ofString "initial_slashes", _), (PySem.Str.ofString "sep", _)] F₁ (all5 hnc h1 h2 h3 h4)
      dsimp only [kstB] at F₁
      rw [List.cons_append] at N₁
      have hi : i ≤ cs.length := by
        have := (List.getElem?_eq_some_iff.mp hp).1
        simp at this; omega
      have hvl : vs.length ≤ 10000000 := by
        rw [htv.length, if_pos hi, List.length_take]; omega
      rw [if_pos hi] at htv
      by_cases hi2 : i < cs.length
      · rw [List.getElem?_append_left hi2] at hp
        obtain ⟨hp0, hp1, hp2, hp3⟩ := hcs p (List.mem_of_getElem? hp)
        have hpl : p.length ≤ 10000000 := Nat.le_trans (len_le_sum (List.mem_of_getElem? hp)) (Nat.le_trans hsum (by decide))
        k_steps
        refine ⟨_, _, _, (d, W.listOf (vs ++ [Value.str (mk p) tp]).toArray (n + 1)) :: news, rfl, (by k_asm), ?_, hsep' _, vs ++ [Value.str (mk p) tp], n + 1, rfl, ?_, rfl, ⟨_, rfl⟩, ⟨_, rfl⟩, ⟨_, rfl⟩, ⟨_, rfl⟩⟩
        · (rename News _ _ _ _ => lN2)
          simpa only [List.push_toArray, List.cons_append] using lN2
        · rw [if_pos (by omega), List.take_add_one, hp]
          exact htv.snoc p tp
      · obtain rfl : i = cs.length := by omega
        rw [List.getElem?_append_right (Nat.le_refl _), Nat.sub_self] at hp
        obtain rfl : [46, 46] = p := by simpa using hp
        rw [List.take_length] at htv
        rcases htv.last with ⟨rfl, hcs0⟩ | ⟨us, ks, l0, t0, rfl, hcs0, hus⟩
        · k_steps
          refine ⟨_, _, _, (d, W.listOf [].toArray n) :: news, rfl, (by k_asm), (by (rename News _ _ _ _ => lN2); simpa only [List.cons_append] using lN2), hsep' _, [], n, rfl, ?_, rfl, ⟨_, rfl⟩, ⟨_, rfl⟩, ⟨_, rfl⟩, ⟨_, rfl⟩⟩
          rw [if_neg (by omega), hcs0]
          exact .nil
        · obtain ⟨hq0, hq1, hq2, hq3⟩ := hcs l0 (by rw [hcs0]; simp)
          have hul : us.length ≤ 10000000 := by simp at hvl; omega
          k_steps
          · refine ⟨_, _, _, (d, W.listOf us.toArray (n + 1)) :: news, rfl, (by k_asm), (by (rename News _ _ _ _ => lN2); simpa only [List.cons_append] using lN2), hsep' _, us, n + 1, rfl, ?_, rfl, ⟨_, rfl⟩, ⟨_, rfl⟩, ⟨_, rfl⟩, ⟨_, rfl⟩⟩
            rw [if_neg (by omega), hcs0, List.dropLast_concat]
            exact hus
          · exact absurd (by assumption : ¬ (us ++ [Value.str (mk l0) t0] ≠ [])) (by simp)
    · intro m₁ news₁ h tk hJ F₁ N₁
      obtain ⟨vs, n, rfl, htv, hnc, ⟨t1, h1⟩, ⟨t2, h2⟩, ⟨t3, h3⟩, ⟨t4, h4⟩⟩ := hJ
      replace F₁ := fr_known [(PySem.Str.ofString "new_comps", _), (PySem.Str.ofString "dot", _), (PySem.Str.ofString "initial_slashes", _), (PySem.Str.ofString "sep", _)] F₁ (all4 hnc h1 h3 h4)
      dsimp only [kstB] at F₁
      rw [htx.length, List.length_append, List.length_singleton, if_neg (by omega)] at htv
      have hsum : (cs.dropLast.map List.length).sum ≤ 200000 := by
        have e1 := sum_dropLast cs
        have e2 := joinL_len (cs ++ [[46, 46]])
        rw [hj] at e2
        simp at e2; omega
      have hlen2 : cs.dropLast.length ≤ 200000 := by simp; omega
      have hjl : (joinL cs.dropLast).length ≤ 1000000 := by
        have := joinL_le cs.dropLast
        omega
      k_steps
      · exact cb_retS hret (by rw [List.singleton_append]) (by k_asm) (by first | k_asm | exact cb_drop (by assumption) (by kcj_all))
      · exact absurd (by assumption : ¬ ([47] ++ joinL cs.dropLast ≠ [])) (by simp)
  · exact absurd (by assumption : ¬ (47 :: c :: r ≠ [])) (by simp)
end Mine
end

section
open PySem PySem.W PyProof.Rows PySem.Calls
set_option Elab.async false
set_option maxRecDepth 100000
set_option maxHeartbeats 0
namespace Mine
section
variable {prog : Program} {w : World} {A : Around} {E : Value → Shared → Prop} {s : Shared}

/-- the iterator within takes the next item of a tuple -/
theorem nextOf_tup {it l : Addr} {i : Nat} {items : Array Value} {x : Value} {Q : Value → Shared → Prop} (hit : s.heap.IsTupleIter it l i) (hl : s.heap.IsTuple l items) (hx : items[i]? = some x)
    (hQ : ∀ h', h'.IsTupleIter it l (i + 1) → Heap.SameBut it s.heap h' → Q x { s with heap := h' }) : wpAny (model prog w) A (Builtin.SmallTypes.nextOf (.ref it)) Q E s := by
  obtain ⟨o, ho, hc, hd⟩ := id hit
  obtain ⟨ol, hol, _, nl, hdl⟩ := hl
  unfold Builtin.SmallTypes.nextOf
  refine wpAny_bind (wpAny_callSpecial?_slot (name := PySem.Str.ofString "__next__") hit.typeIs F.slot_tuple_iterator_next (wpAny_call_entry F.slot_tuple_iterator_next hit.typeIs F.entry_tuple_iterator_next ?_ (F.args_tuple_iterator_next_1 _)))
  show wpAny _ _ (field (.ref it) 0 >>= _) _ _ s
  refine wpAny_bind (wpAny_field ho hd (x := .ref l) rfl ?_)
  show wpAny _ _ (if (Value.ref l == Value.none) = true then _ else _) _ _ s
  rw [if_neg (show ¬ ((Value.ref l == Value.none) = true) from Bool.false_ne_true)]
  show wpAny _ _ (field (.ref it) 1 >>= _) _ _ s
  refine wpAny_bind (wpAny_field ho hd (x := .int i 0) rfl ?_)
  show wpAny _ _ (seqItems? (.ref l) >>= _) _ _ s
  refine wpAny_bind (wpAny_seqItems hol hdl ?_)
  simp only [Int.toNat_natCast, hx]
  refine wpAny_bind (wpAny_setField ho hd (by simp) (wpAny_pure ⟨x, rfl, wpAny_pure (hQ _ ?_ (Heap.SameBut.update ..))⟩))
  exact ⟨_, Heap.get?_update_self _ ho (Obj.isFreed_of_fields (Obj.data_mapFields hd _)), (Obj.cls_mapFields ..).trans hc, by rw [Obj.data_mapFields hd]; simp [rawInt]⟩

theorem nextOf_tup_end {it l : Addr} {i : Nat} {items : Array Value} {Q : Value → Shared → Prop} (hh : A.handled = none) (hit : s.heap.IsTupleIter it l i) (hl : s.heap.IsTuple l items) (hx : items[i]? = none)
    (hE : ∀ h' e, Heap.ExtBut it s.heap h' → (∃ o, h'.get? e = some o ∧ o.cls = .type "StopIteration") → E (.ref e) { s with heap := h' }) : wpAny (model prog w) A (Builtin.SmallTypes.nextOf (.ref it)) Q E s := by
  obtain ⟨o, ho, hc, hd⟩ := id hit
  obtain ⟨ol, hol, _, nl, hdl⟩ := hl
  unfold Builtin.SmallTypes.nextOf
  refine wpAny_bind (wpAny_callSpecial?_slot (name := PySem.Str.ofString "__next__") hit.typeIs F.slot_tuple_iterator_next (wpAny_call_entry F.slot_tuple_iterator_next hit.typeIs F.entry_tuple_iterator_next ?_ (F.args_tuple_iterator_next_1 _)))
  show wpAny _ _ (field (.ref it) 0 >>= _) _ _ s
  refine wpAny_bind (wpAny_field ho hd (x := .ref l) rfl ?_)
  show wpAny _ _ (if (Value.ref l == Value.none) = true then _ else _) _ _ s
  rw [if_neg (show ¬ ((Value.ref l == Value.none) = true) from Bool.false_ne_true)]
  show wpAny _ _ (field (.ref it) 1 >>= _) _ _ s
  refine wpAny_bind (wpAny_field ho hd (x := .int i 0) rfl ?_)
  show wpAny _ _ (seqItems? (.ref l) >>= _) _ _ s
  refine wpAny_bind (wpAny_seqItems hol hdl ?_)
  simp only [Int.toNat_natCast, hx]
  refine wpAny_bind (wpAny_rule (wpAny_bind (wpAny_setField ho hd (by simp) ?_)))
  show wpAny _ _ (newExc (.type "StopIteration") [] >>= _) _ _ _
  refine wpAny_bind ?_
  simp only [newExc, newTuple]
  refine wpAny_bind (wpAny_newObj_type ?_ (by size_fits))
  refine wpAny_bind (m := firstArgMember _ _) (wpAny_of_eq (a := Value.none) (by first | rfl | (simp only [firstArgMember]; rfl)) ?_)
  refine wpAny_newObj_type ?_ (by size_fits)
  simp only [raiseNew]
  refine wpAny_bind (wpAny_handled ?_)
  first | rw [show A.in1.handled = none from hh] | rw [hh]
  refine wpAny_bind (wpAny_pure (wpAny_throw ?_))
  exact hE _ _ (((Heap.SameBut.update ..).extBut.push _).push _) ⟨_, Heap.get?_push_size _ rfl, rfl⟩

/-- a turn of enumerate over a tuple -/
theorem enum_next {e it l : Addr} {i : Nat} {items : Array Value} {x old : Value} {Q : Option Value → Shared → Prop}
    (he : IsEnum s.heap e it i old) (hit : s.heap.IsTupleIter it l i) (hl : s.heap.IsTuple l items) (hx : items[i]? = some x) (hne : e ≠ it)
    (hQ : ∀ h', IsEnumOut h' e it ((i : Int) + 1) x s.heap.objs.size → h'.IsTupleIter it l (i + 1) → h'.get? s.heap.objs.size = some { cls := .type "tuple", data := .seq #[.int i s.toks, x] } →
      (∀ b o, b ≠ e → b ≠ it → s.heap.get? b = some o → h'.get? b = some o) → Q (some (.ref s.heap.objs.size)) { s with heap := h', toks := s.toks + 1 }) :
    wpAny (model prog w) A (pyNext (.ref e)) Q E s := by
  obtain ⟨hp, g, d, tk, os⟩ := s
  have hT : (⟨hp, g, d, tk, os⟩ : Shared).TypeIs (.ref e) "enumerate" := ⟨_, he, rfl⟩
  unfold pyNext
  refine wpAny_bind (wpAny_attempt (wpAny_callSpecial?_slot (name := PySem.Str.ofString "__next__") hT F.slot_enumerate_next (wpAny_call_entry F.slot_enumerate_next hT F.entry_enumerate_next ?_ (F.args_enumerate_next_1 _))))
  show wpAny _ _ (field (.ref e) 2 >>= _) _ _ _
  refine wpAny_bind (wpAny_field he rfl (x := .ref it) rfl ?_)
  refine wpAny_bind (nextOf_tup hit hl hx fun h₁ hit₁ hs₁ => ?_)
  replace hs₁ : Heap.SameBut it hp h₁ := hs₁
  have he₁ : IsEnum h₁ e it i old := (hs₁.2 e hne).trans he
  show wpAny _ _ (field (.ref e) 3 >>= _) _ _ ⟨h₁, g, d, tk, os⟩
  refine wpAny_bind (wpAny_field he₁ rfl (x := rawInt i) rfl ?_)
  show wpAny _ _ (field (.ref e) 4 >>= _) _ _ ⟨h₁, g, d, tk, os⟩
  refine wpAny_bind (wpAny_field he₁ rfl (x := .none) rfl ?_)
  show wpAny _ _ (mkInt i >>= _) _ _ ⟨h₁, g, d, tk, os⟩
  refine wpAny_bind (wpAny_mkInt ?_)
  show wpAny _ _ (setField (.ref e) 3 (rawInt ((i : Int) + 1)) >>= _) _ _ ⟨h₁, g, d, tk + 1, os⟩
  refine wpAny_bind (wpAny_setField_rec he₁ (by simp) fun h₂ he₂ hs₂ => ?_)
  replace hs₂ : Heap.SameBut e h₁ h₂ := hs₂
  replace he₂ : IsEnum h₂ e it ((i : Int) + 1) old := he₂
  show wpAny _ _ (setField (.ref e) 4 .none >>= _) _ _ ⟨h₂, g, d, tk + 1, os⟩
  refine wpAny_bind (wpAny_setField_rec he₂ (by simp) fun h₃ he₃ hs₃ => ?_)
  replace hs₃ : Heap.SameBut e h₂ h₃ := hs₃
  replace he₃ : IsEnum h₃ e it ((i : Int) + 1) old := he₃
  show wpAny _ _ (newTuple [.int i tk, x] >>= _) _ _ ⟨h₃, g, d, tk + 1, os⟩
  refine wpAny_bind (wpAny_newTuple ?_)
  have hsz : h₃.objs.size = hp.objs.size := by rw [hs₃.1, hs₂.1, hs₁.1]
  have hel : hp.objs.size ≠ e := Nat.ne_of_gt (Heap.lt_size he)
  have he₄ : IsEnum (h₃.push { cls := .type "tuple", data := .seq #[.int i tk, x] }) e it ((i : Int) + 1) old := Heap.get?_push_of_some _ he₃
  have ht₄ : (h₃.push { cls := .type "tuple", data := .seq #[.int i tk, x] }).get? hp.objs.size = some { cls := .type "tuple", data := .seq #[.int i tk, x] } := by rw [← hsz]; exact Heap.get?_push_size _ rfl
  have hk₄ : ∀ b o, b ≠ e → b ≠ it → hp.get? b = some o → (h₃.push { cls := .type "tuple", data := .seq #[.int i tk, x] }).get? b = some o := fun b o hbe hbi hb =>
    Heap.get?_push_of_some _ (hs₃.extBut b o hbe (hs₂.extBut b o hbe (hs₁.extBut b o hbi hb)))
  have hit₄ : (h₃.push { cls := .type "tuple", data := .seq #[.int i tk, x] }).IsTupleIter it l (i + 1) :=
    hit₁.at fun o ho => Heap.get?_push_of_some _ (hs₃.extBut _ o (Ne.symm hne) (hs₂.extBut _ o (Ne.symm hne) ho))
  generalize h₃.push { cls := .type "tuple", data := .seq #[.int i tk, x] } = h₄ at he₄ ht₄ hk₄ hit₄ ⊢
  show wpAny _ _ (Builtin.SmallTypes.ownedTupleIsFree (.ref e) >>= _) _ _ ⟨h₄, g, d, tk + 1, os⟩
  rw [hsz]
  clear he₃ hs₃ he₂ hs₂ he₁ hs₁ hit₁ hsz
  refine wpAny_bind ?_
  unfold Builtin.SmallTypes.ownedTupleIsFree
  refine wpAny_bind (wpAny_field he₄ rfl (x := .none) rfl (wpAny_pure ?_))
  simp only [if_true]
  refine wpAny_bind (wpAny_rule ?_)
  refine wpAny_bind (wpAny_field he₄ rfl (x := old) rfl ?_)
  refine wpAny_bind (wpAny_setField_rec he₄ (by simp) fun h₅ he₅ hs₅ => ?_)
  replace hs₅ : Heap.SameBut e h₄ h₅ := hs₅
  replace he₅ : IsEnum h₅ e it ((i : Int) + 1) x := he₅
  show wpAny _ _ (Builtin.SmallTypes.ownedTupleHandOut (.ref e) (.ref hp.objs.size) >>= _) _ _ ⟨h₅, g, d, tk + 1, os⟩
  refine wpAny_bind ?_
  unfold Builtin.SmallTypes.ownedTupleHandOut
  refine wpAny_bind (wpAny_setField_rec he₅ (by simp) fun h₆ he₆ hs₆ => ?_)
  replace hs₆ : Heap.SameBut e h₅ h₆ := hs₆
  replace he₆ : IsEnumOut h₆ e it ((i : Int) + 1) x hp.objs.size := he₆
  refine wpAny_setField_rec he₆ (by simp) fun h₇ he₇ hs₇ => ?_
  replace hs₇ : Heap.SameBut e h₆ h₇ := hs₇
  replace he₇ : IsEnumOut h₇ e it ((i : Int) + 1) x hp.objs.size := he₇
  have up : ∀ b o, b ≠ e → h₄.get? b = some o → h₇.get? b = some o := fun b o hb q => hs₇.extBut b o hb (hs₆.extBut b o hb (hs₅.extBut b o hb q))
  refine wpAny_bind (wpAny_letGo (wpAny_pure ⟨_, rfl, wpAny_pure (hQ h₇ he₇ (hit₄.at fun o ho => up _ o (Ne.symm hne) ho) (up _ _ hel ht₄) fun b o hbe hbi hb => up b o hbe (hk₄ b o hbe hbi hb))⟩))

theorem enum_end {e it l : Addr} {i : Nat} {items : Array Value} {old : Value} {Q : Option Value → Shared → Prop} (hh : A.handled = none)
    (he : IsEnum s.heap e it i old) (hit : s.heap.IsTupleIter it l i) (hl : s.heap.IsTuple l items) (hx : items[i]? = none) (hQ : ∀ h', Heap.ExtBut it s.heap h' → Q none { s with heap := h' }) :
    wpAny (model prog w) A (pyNext (.ref e)) Q E s := by
  have hT : s.TypeIs (.ref e) "enumerate" := ⟨_, he, rfl⟩
  unfold pyNext
  refine wpAny_bind (wpAny_attempt (wpAny_callSpecial?_slot (name := PySem.Str.ofString "__next__") hT F.slot_enumerate_next (wpAny_call_entry F.slot_enumerate_next hT F.entry_enumerate_next ?_ (F.args_enumerate_next_1 _))))
  show wpAny _ _ (field (.ref e) 2 >>= _) _ _ _
  refine wpAny_bind (wpAny_field he rfl (x := .ref it) rfl ?_)
  refine wpAny_bind (nextOf_tup_end hh hit hl hx fun h' x he' hx' => ?_)
  obtain ⟨o, ho, hc⟩ := hx'
  refine wpAny_bind (wpAny_isInstance (T := "StopIteration") (b := true) ⟨o, ho, hc⟩ isSubtype_stop ?_)
  exact wpAny_pure (hQ _ he')
end

open AutoSeq1 (wpAny_loadPart') in
theorem enum_new (l : Addr) (items : Array Value) (n : Nat) (dct : Option Addr) (sl : Array (Option Value)) :
    Meets (Builtin.«enumerate.__new__» ⟨[.type "enumerate", .ref l], []⟩) (fun _ R s => s.heap.get? l = some { cls := .type "tuple", dict := dct, data := .seq items n, slots := sl } ∧
      R (.ok (.ret (.ref (s.heap.push { cls := .type "tuple_iterator", data := .fields #[.ref l, .int 0 0] }).objs.size)))
        { s with heap := (s.heap.push { cls := .type "tuple_iterator", data := .fields #[.ref l, .int 0 0] }).push { cls := .type "enumerate", data := .fields #[.none, .bool false, .ref s.heap.objs.size, rawInt 0, .none, .none] } }) :=
  .of_wp fun prog w A R s h => by
    obtain ⟨hp, g, d, tk, os⟩ := s; obtain ⟨hl, h⟩ := h
    have hsub := sub_enumerate
    have hL : Heap.IsTuple (Shared.heap ⟨hp, g, d, tk, os⟩) l items := ⟨_, hl, rfl, n, rfl⟩
    wp_walk using wpAny_loadPart' hl
    refine wpAny_stack_any fun st => wpAny_pure ?_
    split
    · rename_i c _ _ _ _ _
      cases (c == Value.type "enumerate") <;> (wp_walk using wpAny_loadPart' hl, wpAny_pyIter_tuple hL; exact ⟨_, rfl, h⟩)
    · wp_walk using wpAny_loadPart' hl, wpAny_pyIter_tuple hL
      exact ⟨_, rfl, h⟩
section
variable {prog : Program} {w : World} {A : Around} {E : Value → Shared → Prop} {s : Shared}
theorem call_enum {l : Addr} {items : Array Value} {Q : Value → Shared → Prop} (hL : s.heap.IsTuple l items)
    (h : ∀ h', IsEnum h' (s.heap.objs.size + 1) s.heap.objs.size 0 .none → h'.IsTupleIter s.heap.objs.size l 0 → (∀ b o, s.heap.get? b = some o → h'.get? b = some o) → s.heap.objs.size ≤ h'.objs.size → Q (.ref (s.heap.objs.size + 1)) { s with heap := h' }) :
    wpAny (model prog w) A (call (.type "enumerate") [.ref l]) Q E s := by
  obtain ⟨⟨c, dct, dt, sl⟩, hl, hc, n, hd⟩ := hL
  replace hc : c = .type "tuple" := hc
  replace hd : dt = .seq items n := hd
  subst hc hd
  refine callType_new F.called_enumerate (by decide) (F.typeCall_enumerate_1 _) (F.newCall_enumerate_1 _) (fun obj => F.args_object_init_2 obj _) F.entry_enumerate_new (enum_new l items n dct sl) ⟨hl, ?_⟩
  have hz : (s.heap.push { cls := .type "tuple_iterator", data := .fields #[.ref l, .int 0 0] }).objs.size = s.heap.objs.size + 1 := Heap.size_push ..
  show _ ∧ _
  rw [hz]
  have he : IsEnum ((s.heap.push { cls := .type "tuple_iterator", data := .fields #[.ref l, .int 0 0] }).push
      { cls := .type "enumerate", data := .fields #[.none, .bool false, .ref s.heap.objs.size, rawInt 0, .none, .none] }) (s.heap.objs.size + 1) s.heap.objs.size 0 .none := by
    have := Heap.get?_push_size (s.heap.push { cls := .type "tuple_iterator", data := .fields #[.ref l, .int 0 0] })
      (o := { cls := .type "enumerate", data := .fields #[.none, .bool false, .ref s.heap.objs.size, rawInt 0, .none, .none] }) rfl
    rw [hz] at this; exact this
  exact ⟨⟨_, he, rfl⟩, h _ he ⟨_, Heap.get?_push_of_some _ (Heap.get?_push_size _ rfl), rfl, rfl⟩ (fun b o x => Heap.get?_push_of_some _ (Heap.get?_push_of_some _ x)) (by rw [Heap.size_push, hz]; omega)⟩

/-- the turns of enumerate over a tuple -/
theorem enum_turns (hh : A.handled = none) (e it l : Addr) (hei : e ≠ it) (hle : l ≠ e) (hli : l ≠ it) (items : Array Value) (elts : List PySem.Expr) (k : Nat) (pos : Pos) :
    KTurns prog w A (.Tuple elts k pos) e [e, it, l] [e, it] items.size
      (fun i v h => ∃ T t x, v = .ref T ∧ items[i]? = some x ∧ h.IsTuple T #[.int (i : Int) t, x])
      (fun i v h => ∃ T t x, v = .ref T ∧ items[i]? = some x ∧ h.IsTuple T #[.int (i : Int) t, x] ∧ IsEnumOut h e it ((i : Int) + 1) x T ∧ h.IsTupleIter it l (i + 1) ∧ h.IsTuple l items ∧ T ≠ e ∧ T ≠ it)
      (fun i h => (∃ old, IsEnum h e it i old) ∧ h.IsTupleIter it l i ∧ h.IsTuple l items) where
  sub := fun b hb => by
    rcases List.mem_cons.mp hb with rfl | hb
    · simp
    · rw [List.mem_singleton.mp hb]; simp
  frame := fun i h h' hst hk => by
    obtain ⟨⟨old, he⟩, hit, hl⟩ := hst
    exact ⟨⟨old, hk e (by simp) _ he⟩, hit.at fun o x => hk it (by simp) o x, hl.at fun o x => hk l (by simp) o x⟩
  item := fun i s Q E hi hst hQ => by
    obtain ⟨⟨old, he⟩, hit, hl⟩ := hst
    have hx : items[i]? = some items[i] := Array.getElem?_eq_getElem hi
    have helt : e < s.heap.objs.size := Heap.lt_size he
    have hilt : it < s.heap.objs.size := by obtain ⟨_, x, _⟩ := hit; exact Heap.lt_size x
    refine enum_next he hit hl hx hei fun h' ho hit' hT hk => ?_
    exact hQ (.ref s.heap.objs.size) h' (s.toks + 1) ⟨_, _, _, rfl, hx, ⟨_, hT, rfl, _, rfl⟩, ho, hit', hl.at fun o x => hk l o hle hli x, Nat.ne_of_gt helt, Nat.ne_of_gt hilt⟩
      fun b o hb x => hk b o (fun e' => hb (by simp [e'])) (fun e' => hb (by simp [e'])) x
  go := fun i v s Q E hm hQ => by
    obtain ⟨T, t, x, rfl, hx, hT, ho, hit, hl, hTe, hTi⟩ := hm
    refine wpAny_letOwnedTupleGo_enum ho fun h' he' hs' => hQ h' ⟨T, t, x, rfl, hx, hT.at fun o y => (hs'.2 T hTe).trans y⟩ ⟨⟨x, by simpa using he'⟩, hit.at fun o y => (hs'.2 it hei.symm).trans y, hl.at fun o y => (hs'.2 l hle).trans y⟩ fun b o hb y => ?_
    exact (hs'.2 b fun e' => hb (by simp [e'])).trans y
  done := fun s Q E hst hQ => by
    obtain ⟨⟨old, he⟩, hit, hl⟩ := hst
    exact enum_end hh he hit hl (Array.getElem?_eq_none (Nat.le_refl _)) fun h' hx => hQ h' s.toks fun b o hb y => hx b o (fun e' => hb (by simp [e'])) y
end

section
variable {prog : Program} {w : World} {A : Around} {E : Value → Shared → Prop} {s : Shared} {env : Env} {h₀ : Heap} {target : PySem.Expr} {body orelse : List Stmt} {Q : Flow → Shared → Prop}

def EndTo (h₀ : Heap) (L : Addr) (J : (PySem.Str → Option Value) → List (Addr × Obj) → Prop) (own : List (Addr × Obj)) (s₁ s₂ : Shared) : Prop :=
  ∃ h' tk m' news₂, s₂ = { s₁ with heap := h', toks := tk } ∧ Fr h₀ L h' m' ∧ News h₀ L h' (news₂ ++ own) ∧ (∀ p ∈ own, ∀ q ∈ news₂, p.1 ≠ q.1) ∧ J m' news₂
def EndPost (h₀ : Heap) (L : Addr) (J Jb : (PySem.Str → Option Value) → List (Addr × Obj) → Prop) (own : List (Addr × Obj)) (s₁ : Shared) (Q : Flow → Shared → Prop) (f : Flow) (s₂ : Shared) : Prop :=
  match f with
  | .ret v => Q (.ret v) s₂
  | .brk => EndTo h₀ L Jb own s₁ s₂
  | _ => EndTo h₀ L J own s₁ s₂

/-- a for with any target and an else, by what holds between the turns and what holds at a break -/
theorem For_my {I : Addr} {fp wr : List Addr} {n : Nat} {P Md : Nat → Value → Heap → Prop} {St : Nat → Heap → Prop} {m : PySem.Str → Option Value} {news : List (Addr × Obj)}
    (J : Nat → (PySem.Str → Option Value) → List (Addr × Obj) → Prop) (Jb : (PySem.Str → Option Value) → List (Addr × Obj) → Prop) (W : KTurns prog w A target I fp wr n P Md St)
    (hLf : env.locals ∉ fp) (hwr : ∀ b ∈ wr, h₀.get? b = none) (hlive : ∀ i h, St i h → ∀ b ∈ fp, ∃ o, h.get? b = some o) (hoff : ∀ q ∈ news, q.1 ∉ fp) (hst : St 0 s.heap) (F : Fr h₀ env.locals s.heap m) (N : News h₀ env.locals s.heap news) (h0 : J 0 m news)
    (step : ∀ i v m₁ news₁ h₁ tk₁ own, i < n → P i v h₁ → J i m₁ news₁ → (∀ p ∈ own, ∀ q ∈ news₁, p.1 ≠ q.1) → Fr h₀ env.locals h₁ m₁ → News h₀ env.locals h₁ (news₁ ++ own) →
      wpAny (model prog w) A (assign target env v) (fun _ s₂ => wpAny (model prog w) A (execs body env) (EndPost h₀ env.locals (J (i + 1)) Jb own { s with heap := h₁, toks := tk₁ } Q) E s₂) E { s with heap := h₁, toks := tk₁ })
    (brk : ∀ m₁ news₁ h tk, Jb m₁ news₁ → Fr h₀ env.locals h m₁ → News h₀ env.locals h news₁ → Q .next { s with heap := h, toks := tk })
    (done : ∀ m₁ news₁ h tk, J n m₁ news₁ → Fr h₀ env.locals h m₁ → News h₀ env.locals h news₁ → wpAny (model prog w) A (execs orelse env) Q E { s with heap := h, toks := tk })
    (hE : PassesOwn (model prog w) A env E) :
    codeAny (model prog w) A (.forLoop target (.ref I) body orelse env) (fun r s' => match r with | .ok f => Q f s' | .error e => cameBackBy (model prog w) A env E e s') s := by
  have hLw : env.locals ∉ wr := fun h => hLf (W.sub _ h)
  have old : ∀ b o, h₀.get? b = some o → b ∉ wr := fun b o e hb => by rw [hwr b hb] at e; cases e
  refine codeAny_forLoop_any
    (fun k s' => ∃ h' tk m' news' i, s' = { s with heap := h', toks := tk } ∧ St i h' ∧ Fr h₀ env.locals h' m' ∧ News h₀ env.locals h' news' ∧ (∀ p ∈ news', p.1 ∉ fp) ∧ J i m' news' ∧ i ≤ n ∧ k = n + 1 - i) ?_ (n + 1)
    ⟨s.heap, s.toks, m, news, 0, rfl, hst, F, N, hoff, h0, Nat.zero_le _, rfl⟩
  rintro k s' ⟨h', tk, m', news', i, rfl, hst', F', N', hoff', hJ, hi, rfl⟩
  have next : ∀ h₁ : Heap, (∀ b o, b ∉ wr → h'.get? b = some o → h₁.get? b = some o) → Fr h₀ env.locals h₁ m' ∧ News h₀ env.locals h₁ news' := fun h₁ hk₁ =>
    ⟨⟨F'.ns.at' fun o e => hk₁ _ o hLw e, fun b o e => hk₁ b o (old b o e) (F'.keep b o e), F'.above⟩, fun p hp => ⟨hk₁ _ _ (fun hm => hoff' p hp (W.sub _ hm)) (N' p hp).1, (N' p hp).2⟩⟩
  by_cases hlt : i < n
  · refine W.item i _ _ _ hlt hst' fun v h₁ tk₁ hMd hk₁ => ?_
    refine W.go i v _ _ _ hMd fun h₂ hP hst₂ hk₂ => ?_
    obtain ⟨F₂, N₂⟩ := next h₂ fun b o hb x => hk₂ b o hb (hk₁ b o hb x)
    have Nown : News h₀ env.locals h₂ (PyProof.Rows.ownOf h₀ fp h₂) := news_ownOf hLf
    have hsep : ∀ p ∈ PyProof.Rows.ownOf h₀ fp h₂, ∀ q ∈ news', p.1 ≠ q.1 := fun p hp q hq e => hoff' q hq (e ▸ ownOf_sub p hp)
    have N₃ : News h₀ env.locals h₂ (news' ++ PyProof.Rows.ownOf h₀ fp h₂) := fun p hp => (List.mem_append.mp hp).elim (N₂ p) (Nown p)
    have off : ∀ {h₃ : Heap} {news₂ : List (Addr × Obj)}, News h₀ env.locals h₃ (news₂ ++ PyProof.Rows.ownOf h₀ fp h₂) → (∀ p ∈ PyProof.Rows.ownOf h₀ fp h₂, ∀ q ∈ news₂, p.1 ≠ q.1) → ∀ q ∈ news₂, q.1 ∉ fp := fun N₄ hs q hq hf => by
      obtain ⟨o, ho⟩ := hlive _ _ hst₂ _ hf
      exact hs _ (mem_ownOf hf (N₄ q (List.mem_append_left _ hq)).2.2 ho) q hq rfl
    refine wpAny_passesOwn hE (wpAny_mono (step i v m' news' h₂ tk₁ _ hlt hP hJ hsep F₂ N₃) (fun _ s₂ h₂' => wpAny_passesOwn hE (wpAny_mono h₂' (fun f s₃ h₃ => ?_) fun _ _ e => e)) fun _ _ e => e)
    have fin : EndTo h₀ env.locals (J (i + 1)) (PyProof.Rows.ownOf h₀ fp h₂) { s with heap := h₂, toks := tk₁ } s₃ → ∃ m, m < n + 1 - i ∧ ∃ h' tk m' news' j, s₃ = { s with heap := h', toks := tk } ∧ St j h' ∧ Fr h₀ env.locals h' m' ∧ News h₀ env.locals h' news' ∧ (∀ p ∈ news', p.1 ∉ fp) ∧ J j m' news' ∧ j ≤ n ∧ m = n + 1 - j := by
      rintro ⟨h₄, tk₄, m₄, news₄, e, F₄, N₄, hs₄, hJ₄⟩
      refine ⟨n + 1 - (i + 1), by omega, h₄, tk₄, m₄, news₄, i + 1, e, ?_, F₄, (fun p hp => N₄ p (List.mem_append_left _ hp)), off N₄ hs₄, hJ₄, hlt, rfl⟩
      refine W.frame _ _ _ hst₂ fun b hb o e => ?_
      cases hn : h₀.get? b with
      | some o₀ =>
        have : o₀ = o := by have q := F₂.keep b o₀ hn; rw [e] at q; exact (Option.some.inj q).symm
        exact this ▸ F₄.keep b o₀ hn
      | none => exact (N₄ _ (List.mem_append_right _ (mem_ownOf hb hn e))).1
    cases f with
    | ret v => exact h₃
    | brk =>
      obtain ⟨h₄, tk₄, m₄, news₄, e, F₄, N₄, hs₄, hJ₄⟩ := h₃
      rw [e]
      exact brk m₄ news₄ h₄ tk₄ hJ₄ F₄ (fun p hp => N₄ p (List.mem_append_left _ hp))
    | cont => exact fin h₃
    | next => exact fin h₃
  · obtain rfl : i = n := by omega
    refine W.done _ _ _ hst' fun h₁ tk₁ hk₁ => ?_
    obtain ⟨F₁, N₁⟩ := next h₁ hk₁
    exact wpAny_passesOwn hE (done m' news' h₁ tk₁ hJ F₁ N₁)
end
end Mine
end

section
open PySem PySem.W PyProof.Rows PySem.Calls
set_option Elab.async false
set_option maxRecDepth 100000
set_option maxHeartbeats 0
namespace Mine
/-- filemode's table -/
def fmRows : List (List (Int × Nat)) := [[(40960, 108), (49152, 115), (32768, 45), (24576, 98), (16384, 100), (8192, 99), (4096, 112)], [(256, 114)], [(128, 119)], [(2112, 115), (2048, 83), (64, 120)], [(32, 114)], [(16, 119)], [(1032, 115), (1024, 83), (8, 120)], [(4, 114)], [(2, 119)], [(513, 116), (512, 84), (1, 120)]]
def RowAt (h : Heap) (x : Value) (row : List (Int × Nat)) : Prop :=
  ∃ (a : Addr) (vs : List Value), x = Value.ref a ∧ h.IsTuple a vs.toArray ∧ vs.length = row.length ∧ ∀ (j : Nat) (p : Int × Nat), row[j]? = some p → ∃ (b : Addr) (t t' : Tok), vs[j]? = some (Value.ref b) ∧ h.IsTuple b #[.int p.1 t, .str (mk [p.2]) t']
theorem tup_at {K : Frag} {h : Heap} {a : Addr} {vs : Array Value} {n : Nat} (X : K.In h) (e : K.lookup a = some { cls := .type "tuple", data := .seq vs n }) : h.IsTuple a vs := ⟨_, X _ _ e, rfl, n, rfl⟩
theorem row_nil {h : Heap} {vs : List Value} : ∀ (j : Nat) (p : Int × Nat), ([] : List (Int × Nat))[j]? = some p → ∃ (b : Addr) (t t' : Tok), vs[j]? = some (Value.ref b) ∧ h.IsTuple b #[.int p.1 t, .str (mk [p.2]) t'] := fun j p e => by simp at e
theorem row_cons {h : Heap} {b : Addr} {vs : List Value} {q : Int × Nat} {row : List (Int × Nat)} {t t' : Tok} {x : PySem.Str} (hx : mk [q.2] = x) (e : h.IsTuple b #[.int q.1 t, .str x t'])
    (r : ∀ (j : Nat) (p : Int × Nat), row[j]? = some p → ∃ (b : Addr) (t t' : Tok), vs[j]? = some (Value.ref b) ∧ h.IsTuple b #[.int p.1 t, .str (mk [p.2]) t']) : ∀ (j : Nat) (p : Int × Nat), (q :: row)[j]? = some p → ∃ (c : Addr) (t t' : Tok), (Value.ref b :: vs)[j]? = some (Value.ref c) ∧ h.IsTuple c #[.int p.1 t, .str (mk [p.2]) t'] := fun j p hj => by
  cases j with
  | zero => obtain rfl : q = p := by simpa using hj
            exact ⟨b, t, t', rfl, hx ▸ e⟩
  | succ j => simpa using r j p (by simpa using hj)
theorem row_200 {w : World} {h : Heap} (X : (hd.heap_1 w.params).In h) : RowAt h (.ref 200) [(40960, 108), (49152, 115), (32768, 45), (24576, 98), (16384, 100), (8192, 99), (4096, 112)] :=
  ⟨200, [.ref 193, .ref 194, .ref 195, .ref 196, .ref 197, .ref 198, .ref 199], rfl, tup_at X rfl, rfl, (row_cons (by decide +kernel : mk [108] = PySem.Str.ofString "l") (tup_at X (a := 193) rfl) (row_cons (by decide +kernel : mk [115] = PySem.Str.ofString "s") (tup_at X (a := 194) rfl) (row_cons (by decide +kernel : mk [45] = PySem.Str.ofString "-") (tup_at X (a := 195) rfl) (row_cons (by decide +kernel : mk [98] = PySem.Str.ofString "b") (tup_at X (a := 196) rfl) (row_cons (by decide +kernel : mk [100] = PySem.Str.ofString "d") (tup_at X (a := 197) rfl) (row_cons (by decide +kernel : mk [99] = PySem.Str.ofString "c") (tup_at X (a := 198) rfl) (row_cons (by decide +kernel : mk [112] = PySem.Str.ofString "p") (tup_at X (a := 199) rfl) row_nil)))))))⟩
theorem row_202 {w : World} {h : Heap} (X : (hd.heap_1 w.params).In h) : RowAt h (.ref 202) [(256, 114)] :=
  ⟨202, [.ref 201], rfl, tup_at X rfl, rfl, (row_cons (by decide +kernel : mk [114] = PySem.Str.ofString "r") (tup_at X (a := 201) rfl) row_nil)⟩
theorem row_204 {w : World} {h : Heap} (X : (hd.heap_1 w.params).In h) : RowAt h (.ref 204) [(128, 119)] :=
  ⟨204, [.ref 203], rfl, tup_at X rfl, rfl, (row_cons (by decide +kernel : mk [119] = PySem.Str.ofString "w") (tup_at X (a := 203) rfl) row_nil)⟩
theorem row_208 {w : World} {h : Heap} (X : (hd.heap_1 w.params).In h) : RowAt h (.ref 208) [(2112, 115), (2048, 83), (64, 120)] :=
  ⟨208, [.ref 205, .ref 206, .ref 207], rfl, tup_at X rfl, rfl, (row_cons (by decide +kernel : mk [115] = PySem.Str.ofString "s") (tup_at X (a := 205) rfl) (row_cons (by decide +kernel : mk [83] = PySem.Str.ofString "S") (tup_at X (a := 206) rfl) (row_cons (by decide +kernel : mk [120] = PySem.Str.ofString "x") (tup_at X (a := 207) rfl) row_nil)))⟩
theorem row_210 {w : World} {h : Heap} (X : (hd.heap_1 w.params).In h) : RowAt h (.ref 210) [(32, 114)] :=
  ⟨210, [.ref 209], rfl, tup_at X rfl, rfl, (row_cons (by decide +kernel : mk [114] = PySem.Str.ofString "r") (tup_at X (a := 209) rfl) row_nil)⟩
theorem row_212 {w : World} {h : Heap} (X : (hd.heap_1 w.params).In h) : RowAt h (.ref 212) [(16, 119)] :=
  ⟨212, [.ref 211], rfl, tup_at X rfl, rfl, (row_cons (by decide +kernel : mk [119] = PySem.Str.ofString "w") (tup_at X (a := 211) rfl) row_nil)⟩
theorem row_216 {w : World} {h : Heap} (X : (hd.heap_1 w.params).In h) : RowAt h (.ref 216) [(1032, 115), (1024, 83), (8, 120)] :=
  ⟨216, [.ref 213, .ref 214, .ref 215], rfl, tup_at X rfl, rfl, (row_cons (by decide +kernel : mk [115] = PySem.Str.ofString "s") (tup_at X (a := 213) rfl) (row_cons (by decide +kernel : mk [83] = PySem.Str.ofString "S") (tup_at X (a := 214) rfl) (row_cons (by decide +kernel : mk [120] = PySem.Str.ofString "x") (tup_at X (a := 215) rfl) row_nil)))⟩
theorem row_218 {w : World} {h : Heap} (X : (hd.heap_1 w.params).In h) : RowAt h (.ref 218) [(4, 114)] :=
  ⟨218, [.ref 217], rfl, tup_at X rfl, rfl, (row_cons (by decide +kernel : mk [114] = PySem.Str.ofString "r") (tup_at X (a := 217) rfl) row_nil)⟩
theorem row_220 {w : World} {h : Heap} (X : (hd.heap_1 w.params).In h) : RowAt h (.ref 220) [(2, 119)] :=
  ⟨220, [.ref 219], rfl, tup_at X rfl, rfl, (row_cons (by decide +kernel : mk [119] = PySem.Str.ofString "w") (tup_at X (a := 219) rfl) row_nil)⟩
theorem row_224 {w : World} {h : Heap} (X : (hd.heap_1 w.params).In h) : RowAt h (.ref 224) [(513, 116), (512, 84), (1, 120)] :=
  ⟨224, [.ref 221, .ref 222, .ref 223], rfl, tup_at X rfl, rfl, (row_cons (by decide +kernel : mk [116] = PySem.Str.ofString "t") (tup_at X (a := 221) rfl) (row_cons (by decide +kernel : mk [84] = PySem.Str.ofString "T") (tup_at X (a := 222) rfl) (row_cons (by decide +kernel : mk [120] = PySem.Str.ofString "x") (tup_at X (a := 223) rfl) row_nil)))⟩
def fmRefs : List Value := [.ref 200, .ref 202, .ref 204, .ref 208, .ref 210, .ref 212, .ref 216, .ref 218, .ref 220, .ref 224]
theorem tab_at {w : World} {h : Heap} (X : (hd.heap_1 w.params).In h) : h.IsTuple 225 fmRefs.toArray := tup_at X rfl
theorem rows_at {w : World} {h : Heap} (X : (hd.heap_1 w.params).In h) : ∀ (i : Nat) (x : Value), fmRefs[i]? = some x → ∃ row, fmRows[i]? = some row ∧ RowAt h x row
  | 0, x, e => by obtain rfl : Value.ref 200 = x := (by simpa [fmRefs] using e); exact ⟨_, rfl, row_200 X⟩
  | 1, x, e => by obtain rfl : Value.ref 202 = x := (by simpa [fmRefs] using e); exact ⟨_, rfl, row_202 X⟩
  | 2, x, e => by obtain rfl : Value.ref 204 = x := (by simpa [fmRefs] using e); exact ⟨_, rfl, row_204 X⟩
  | 3, x, e => by obtain rfl : Value.ref 208 = x := (by simpa [fmRefs] using e); exact ⟨_, rfl, row_208 X⟩
  | 4, x, e => by obtain rfl : Value.ref 210 = x := (by simpa [fmRefs] using e); exact ⟨_, rfl, row_210 X⟩
  | 5, x, e => by obtain rfl : Value.ref 212 = x := (by simpa [fmRefs] using e); exact ⟨_, rfl, row_212 X⟩
  | 6, x, e => by obtain rfl : Value.ref 216 = x := (by simpa [fmRefs] using e); exact ⟨_, rfl, row_216 X⟩
  | 7, x, e => by obtain rfl : Value.ref 218 = x := (by simpa [fmRefs] using e); exact ⟨_, rfl, row_218 X⟩
  | 8, x, e => by obtain rfl : Value.ref 220 = x := (by simpa [fmRefs] using e); exact ⟨_, rfl, row_220 X⟩
  | 9, x, e => by obtain rfl : Value.ref 224 = x := (by simpa [fmRefs] using e); exact ⟨_, rfl, row_224 X⟩
  | n + 10, x, e => by simp [fmRefs] at e
end Mine
end

section
open PySem PySem.W PyProof.Rows PySem.Calls
set_option Elab.async false
set_option maxRecDepth 100000
set_option maxHeartbeats 0
namespace Mine
theorem lt_tup {h : Heap} {a : Addr} {vs : Array Value} (x : h.IsTuple a vs) : a < h.objs.size := let ⟨_, ho, _⟩ := x; Heap.lt_size ho
theorem tup_some {h : Heap} {a : Addr} {vs : Array Value} {P : Prop} (x : h.IsTuple a vs) (e : h.get? a = none) : P := by
  obtain ⟨o, ho, _⟩ := x
  rw [ho] at e; cases e
/-- the test of a row -/
def fmTest (md : Int) (i : Nat) (b : Int) : Bool := if i = 0 then decide (Builtin.bitAnd md 61440 = b) else decide (Builtin.bitAnd md b = b)
def fmCh (md : Int) (i : Nat) : List Nat := match (fmRows.getD i []).find? (fun p => fmTest md i p.1) with
  | some p => [p.2]
  | none => if i = 0 then [63] else [45]
def fmL (md : Int) : List Nat := ((List.range 10).map (fmCh md)).flatten

local macro_rules | `(tactic| size_fits) => `(tactic| (rw [PySem.sizeLine_eq]; (try simp only [mk_len, List.size_toArray, List.length_append, List.length_cons, List.length_nil]); omega))
local macro_rules | `(tactic| k_all) => `(tactic| assumption)
local macro_rules | `(tactic| k_room) => `(tactic| ktr_room)
theorem fmTest_zero {md : Int} {b : Int} : fmTest md 0 b = decide (Builtin.bitAnd md 61440 = b) := rfl
theorem fmTest_pos {md : Int} {i : Nat} {b : Int} (h : i ≠ 0) : fmTest md i b = decide (Builtin.bitAnd md b = b) := by simp [fmTest, h]
local macro_rules | `(tactic| walk_at "call builtin:str.join") => `(tactic| k_dflt (refine cat_head (by decide +kernel) (by assumption) (by assumption) (by assumption) ?_; intro _ _))
theorem find_first {α : Type} {p : α → Bool} : ∀ {l : List α} {j : Nat} (hj : j < l.length), (∀ x ∈ l.take j, p x = false) → p l[j] = true → l.find? p = some l[j]
  | [], _, hj, _, _ => by simp at hj
  | a :: r, 0, _, _, h2 => by simp at h2; simp [h2]
  | a :: r, j + 1, hj, h1, h2 => by
    have ha : p a = false := h1 a (by simp)
    rw [List.find?_cons, ha]
    exact find_first (l := r) (j := j) (by simpa using hj) (fun x hx => h1 x (by simp [hx])) (by simpa using h2)
theorem take_more {α : Type} {p : α → Bool} {l : List α} {j : Nat} (hj : j < l.length) (h1 : ∀ x ∈ l.take j, p x = false) (h2 : p l[j] = false) : ∀ x ∈ l.take (j + 1), p x = false := fun x hx => by
  rw [List.take_add_one, List.getElem?_eq_getElem hj] at hx
  rcases List.mem_append.mp hx with hx | hx
  · exact h1 x hx
  · have : x = l[j] := by simpa using hx
    rw [this]; exact h2
theorem fmCh_len (md : Int) (i : Nat) : (fmCh md i).length = 1 := by
  unfold fmCh
  split
  · rfl
  · split <;> rfl
theorem fmCh_sum (md : Int) : ∀ n : Nat, (((List.range n).map (fmCh md)).map List.length).sum = n
  | 0 => rfl
  | n + 1 => by
    have ih := fmCh_sum md n
    rw [List.range_succ]
    simp only [List.map_append, List.sum_append, List.map_cons, List.map_nil, List.sum_cons, List.sum_nil, fmCh_len] at ih ⊢
    omega
theorem fmCh_some {md : Int} {i : Nat} {row : List (Int × Nat)} {p : Int × Nat} (h : fmRows[i]? = some row) (hf : row.find? (fun p => fmTest md i p.1) = some p) : fmCh md i = [p.2] := by
  unfold fmCh
  rw [List.getD, h, Option.getD_some, hf]
theorem fmCh_none {md : Int} {i : Nat} {row : List (Int × Nat)} (h : fmRows[i]? = some row) (hf : row.find? (fun p => fmTest md i p.1) = none) : fmCh md i = if i = 0 then [63] else [45] := by
  unfold fmCh
  rw [List.getD, h, Option.getD_some, hf]
theorem c_filemode (w : World) (mean : ExcName → Option Value) (mg mb : PySem.Str → Option Value) (md : Int) (t : Tok) : Cl w mean mg mb 232 3 40 (0 ≤ md ∧ md < 65536) [.int md t] (fun t' => .str (mk (fmL md)) t') := by
  unfold Cl
  k_fill
  intro dp un gd cn cs a ccd cl outer A₀ base h₀ L m news s Q E B F X N T hk pre hdp hu hret
  refine wpAny_call ?_
  k_dflt cell_enter
  iterate 9 walk1
  refine wpAny_For ?_
  iterate 6 walk1
  (rename Fr _ _ _ _ => lF')
  (rename News _ _ _ _ => lN')
  (rename Frag.In _ _ => X')
  have hL := tab_at (Frag.In.keeps X' lF'.keep)
  (rename ∀ p ∈ news, p.1 < _ => hltd)
  obtain ⟨d, hd'⟩ := head_addr lN'
  subst hd'
  refine call_enum hL fun h₁ he hit hk₁ hsz => ?_
  refine wpAny_pyIter_enum he ?_
  have lF2 := lF'.keeps hk₁
  have lN2 := lN'.grown hk₁
  refine For_my (news := (d, W.listOf [].toArray 0) :: news) (fun i m nx => ∃ vs n, nx = (d, W.listOf vs.toArray n) :: news ∧ Texts vs ((List.range i).map (fmCh md)) ∧ m (PySem.Str.ofString "perm") = some (.ref d) ∧ ∃ t, m (PySem.Str.ofString "mode") = some (.int md t))
    (fun _ _ => False) (enum_turns rfl _ _ 225 (Nat.succ_ne_self _) ?_ ?_ fmRefs.toArray _ _ _) ?_ ?_ ?_ ?_ ⟨⟨_, he⟩, hit, hL.at fun o e => hk₁ _ _ e⟩ lF2 lN2 ⟨[], 0, rfl, .nil, rfl, _, rfl⟩ ?_ ?_ ?_ ?_
  · exact Nat.ne_of_lt (Nat.lt_succ_of_lt (lt_tup hL))
  · exact Nat.ne_of_lt (lt_tup hL)
  · intro hm
    have h1 := lF'.ns.lt
    have h2 := lt_tup (tab_at X')
    have h3 := lF'.above
    simp only [List.mem_cons, List.not_mem_nil, or_false] at hm
    rcases hm with e | e | e
    · exact absurd (Nat.lt_of_le_of_lt (Nat.le_of_eq (Eq.symm e)) h1) (Nat.not_lt.mpr (Nat.le_succ _))
    · exact absurd (Nat.lt_of_le_of_lt (Nat.le_of_eq (Eq.symm e)) h1) (Nat.lt_irrefl _)
    · exact Nat.lt_irrefl _ (Nat.lt_of_lt_of_le h2 (Nat.le_trans h3 (Nat.le_of_eq e)))
  · intro b hb
    simp only [List.mem_cons, List.not_mem_nil, or_false] at hb
    rcases hb with rfl | rfl
    · exact ktu_new lF' (Nat.le_succ _)
    · exact ktu_new lF' (Nat.le_refl _)
  · rintro i h ⟨⟨old, he'⟩, ⟨o1, h1, _⟩, ⟨o2, h2, _⟩⟩ b hb
    simp only [List.mem_cons, List.not_mem_nil, or_false] at hb
    rcases hb with rfl | rfl | rfl
    · exact ⟨_, he'⟩
    · exact ⟨_, h1⟩
    · exact ⟨_, h2⟩
  · intro q hq hm
    have h1 : q.1 < _ := Heap.lt_size (lN' q hq).1
    have h2 := (lN' q hq).2.2
    simp only [List.mem_cons, List.not_mem_nil, or_false] at hm
    rcases hm with e | e | e
    · rw [e] at h1; exact absurd h1 (Nat.not_lt.mpr (Nat.le_succ _))
    · rw [e] at h1; exact absurd h1 (Nat.lt_irrefl _)
    · exact tup_some (tab_at X') (e ▸ h2)
  · intro i v m₁ news₁ h₁ tk₁ own hi hP hJ hsep F₁ N₁
    obtain ⟨T, ti, x, rfl, hx, hT⟩ := hP
    obtain ⟨vs, n, rfl, htv, hpm, tm, hmd⟩ := hJ
    obtain ⟨row, hrow, a, rs, rfl, hta, hlen, hrs⟩ := rows_at X' i x (by simpa using hx)
    replace F₁ := fr_known [(PySem.Str.ofString "perm", _), (PySem.Str.ofString "mode", _)] F₁ (all2 hpm hmd)
    dsimp only [kstB] at F₁
    rw [List.cons_append] at N₁
    iterate 10 walk1
    refine wpAny_For ?_
    walk1
    (rename Fr _ _ _ _ => lF3)
    (rename News _ _ _ _ => lN3)
    have hta2 := hta.at fun o e => lF3.keep _ _ e
    refine wpAny_pyIter_tuple hta2 ?_
    have hoff : ∀ q ∈ news ++ own, q.1 ≠ d := by
      intro q hq
      rcases List.mem_append.mp hq with hq | hq
      · exact Nat.ne_of_lt (hltd q hq)
      · exact hsep q hq _ (List.mem_cons_self ..)
    have hsepA : ∀ o, ∀ p ∈ own, ∀ q ∈ (d, o) :: news, p.1 ≠ q.1 := by
      intro o p hp q hq
      rcases List.mem_cons.mp hq with rfl | hq
      · exact hsep p hp (d, W.listOf vs.toArray n) (List.mem_cons_self ..)
      · exact hsep p hp q (List.mem_cons_of_mem _ hq)
    have hvl : vs.length ≤ 1000000 := by
      have h1 := htv.length
      have h2 : i < 10 := hi
      simp at h1; omega
    refine For_my (fun j m nx => nx = (d, W.listOf vs.toArray n) :: (news ++ own) ∧ m (PySem.Str.ofString "perm") = some (.ref d) ∧ (∃ t, m (PySem.Str.ofString "mode") = some (.int md t)) ∧ (∃ t, m (PySem.Str.ofString "index") = some (.int (i : Int) t)) ∧ ∀ p ∈ row.take j, fmTest md i p.1 = false)
      (fun m nx => ∃ p t, row.find? (fun p => fmTest md i p.1) = some p ∧ nx = (d, W.listOf (vs ++ [Value.str (mk [p.2]) t]).toArray (n + 1)) :: (news ++ own) ∧ m (PySem.Str.ofString "perm") = some (.ref d) ∧ ∃ t, m (PySem.Str.ofString "mode") = some (.int md t))
      (KTurns.ofWalks (Walks.tuple rfl _ a (Nat.ne_of_lt (lt_tup hta2)) rs.toArray) fun i v s Q E st q => letGo_tupleiter st.1 q) ?_ ?_ ?_ ?_ ⟨⟨_, Heap.get?_push_size _ rfl, rfl, rfl⟩, hta2.at fun o e => Heap.get?_push_of_some _ e⟩ (lF3.push _) (fun p hp => ⟨Heap.get?_push_of_some _ (lN3 p hp).1, (lN3 p hp).2⟩) ⟨rfl, rfl, ⟨_, rfl⟩, ⟨_, rfl⟩, fun p hp => by simp at hp⟩ ?_ ?_ ?_ ?_
    · intro hm
      have h1 := lF3.ns.lt
      have h2 := lt_tup hta
      have h3 := lF3.above
      simp only [List.mem_cons, List.not_mem_nil, or_false] at hm
      rcases hm with e | e
      · exact absurd (Nat.lt_of_le_of_lt (Nat.le_of_eq (Eq.symm e)) h1) (Nat.lt_irrefl _)
      · exact Nat.lt_irrefl _ (Nat.lt_of_lt_of_le h2 (Nat.le_trans h3 (Nat.le_of_eq e)))
    · intro b hb
      rw [List.mem_singleton.mp hb]
      exact next_is_new lF3
    · rintro i h ⟨⟨o1, h1, _⟩, ⟨o2, h2, _⟩⟩ b hb
      simp only [List.mem_cons, List.not_mem_nil, or_false] at hb
      rcases hb with rfl | rfl
      · exact ⟨_, h1⟩
      · exact ⟨_, h2⟩
    · intro q hq hm
      have h1 : q.1 < _ := Heap.lt_size (lN3 q hq).1
      have h2 := (lN3 q hq).2.2
      simp only [List.mem_cons, List.not_mem_nil, or_false] at hm
      rcases hm with e | e
      · rw [e] at h1; exact absurd h1 (Nat.lt_irrefl _)
      · exact tup_some hta (e ▸ h2)
    · intro j v m₂ news₂ h₂ tk₂ own₂ hj hP₂ hJ₂ hsep₂ F₂ N₂
      obtain ⟨rfl, hpm₂, ⟨t1, hmd₂⟩, ⟨t2, hix₂⟩, hno⟩ := hJ₂
      have hj' : j < row.length := by rw [← hlen]; simpa using hj
      obtain ⟨b, tb, tc, hb, hbt⟩ := hrs j row[j] (by simp [hj'])
      have hP₂' : rs[j]? = some v := by simpa using hP₂
      rw [hb] at hP₂'
      obtain rfl : Value.ref b = v := Option.some.inj hP₂'
      have hbt2 := hbt.at fun o e => F₂.keep _ _ e
      replace F₂ := fr_known [(PySem.Str.ofString "perm", _), (PySem.Str.ofString "mode", _), (PySem.Str.ofString "index", _)] F₂ (all3 hpm₂ hmd₂ hix₂)
      dsimp only [kstB] at F₂
      rw [List.cons_append] at N₂
      have hoff₂ : ∀ q ∈ news ++ own ++ own₂, q.1 ≠ d := by
        intro q hq
        rcases List.mem_append.mp hq with hq | hq
        · exact hoff q hq
        · exact hsep₂ q hq _ (List.mem_cons_self ..)
      have hsepB : ∀ o, ∀ p ∈ own₂, ∀ q ∈ (d, o) :: (news ++ own), p.1 ≠ q.1 := by
        intro o p hp q hq
        rcases List.mem_cons.mp hq with rfl | hq
        · exact hsep₂ p hp (d, W.listOf vs.toArray n) (List.mem_cons_self ..)
        · exact hsep₂ p hp q (List.mem_cons_of_mem _ hq)
      k_steps
      · have e0 : i = 0 := by omega
        have ht : fmTest md i row[j].1 = true := by rw [e0, fmTest_zero]; exact decide_eq_true (by assumption)
        refine ⟨_, _, _, (d, W.listOf (vs ++ [Value.str (mk [row[j].2]) tc]).toArray (n + 1)) :: (news ++ own), rfl, (by k_asm), ?_, hsepB _, row[j], tc, find_first hj' hno ht, rfl, rfl, _, rfl⟩
        (rename News _ _ _ _ => lN4)
        (simp only [List.push_toArray, List.cons_append] at lN4 ⊢); exact lN4
      · have e0 : i = 0 := by omega
        have ht : fmTest md i row[j].1 = false := by rw [e0, fmTest_zero]; exact decide_eq_false (by assumption)
        exact ⟨_, _, _, (d, W.listOf vs.toArray n) :: (news ++ own), rfl, (by k_asm), (by k_asm), hsep₂, rfl, rfl, ⟨_, rfl⟩, ⟨_, rfl⟩, take_more hj' hno ht⟩
      · have e0 : i ≠ 0 := by omega
        have ht : fmTest md i row[j].1 = true := by rw [fmTest_pos e0]; exact decide_eq_true (by assumption)
        refine ⟨_, _, _, (d, W.listOf (vs ++ [Value.str (mk [row[j].2]) tc]).toArray (n + 1)) :: (news ++ own), rfl, (by k_asm), ?_, hsepB _, row[j], tc, find_first hj' hno ht, rfl, rfl, _, rfl⟩
        (rename News _ _ _ _ => lN4)
        (simp only [List.push_toArray, List.cons_append] at lN4 ⊢); exact lN4
      · have e0 : i ≠ 0 := by omega
        have ht : fmTest md i row[j].1 = false := by rw [fmTest_pos e0]; exact decide_eq_false (by assumption)
        exact ⟨_, _, _, (d, W.listOf vs.toArray n) :: (news ++ own), rfl, (by k_asm), (by k_asm), hsep₂, rfl, rfl, ⟨_, rfl⟩, ⟨_, rfl⟩, take_more hj' hno ht⟩
    · rintro m₂ news₂ h₂ tk₂ ⟨p, tp, hfind, rfl, hpm₂, t1, hmd₂⟩ F₂ N₂
      k_steps
      refine ⟨_, _, _, (d, W.listOf (vs ++ [Value.str (mk [p.2]) tp]).toArray (n + 1)) :: news, rfl, F₂, N₂, hsepA _, vs ++ [Value.str (mk [p.2]) tp], n + 1, rfl, ?_, hpm₂, t1, hmd₂⟩
      rw [List.range_succ, List.map_append, List.map_singleton, fmCh_some hrow hfind]
      exact htv.snoc _ _
    · rintro m₂ news₂ h₂ tk₂ ⟨rfl, hpm₂, ⟨t1, hmd₂⟩, ⟨t2, hix₂⟩, hno⟩ F₂ N₂
      replace F₂ := fr_known [(PySem.Str.ofString "perm", _), (PySem.Str.ofString "mode", _), (PySem.Str.ofString "index", _)] F₂ (all3 hpm₂ hmd₂ hix₂)
      dsimp only [kstB] at F₂
      have hnone : row.find? (fun p => fmTest md i p.1) = none := by
        rw [List.find?_eq_none]
        intro p hp
        have := hno p (by rw [List.size_toArray, hlen, List.take_length]; exact hp)
        simp [this]
      k_steps
      · have e0 : i = 0 := by omega
        (rename News _ _ _ _ => lN4)
        (rename Fr _ _ _ _ => lF4)
        simp only [List.push_toArray] at lN4
        refine ⟨_, _, _, (d, W.listOf (vs ++ [Value.str (PySem.Str.ofString "?") _]).toArray (n + 1)) :: news, rfl, lF4, lN4, hsepA _, vs ++ [Value.str (PySem.Str.ofString "?") _], n + 1, rfl, ?_, rfl, _, rfl⟩
        · rw [List.range_succ, List.map_append, List.map_singleton, fmCh_none hrow hnone, if_pos e0]
          exact htv.snoc_of (by decide +kernel)
      · have e0 : i ≠ 0 := by omega
        (rename News _ _ _ _ => lN4)
        (rename Fr _ _ _ _ => lF4)
        simp only [List.push_toArray] at lN4
        refine ⟨_, _, _, (d, W.listOf (vs ++ [Value.str (PySem.Str.ofString "-") _]).toArray (n + 1)) :: news, rfl, lF4, lN4, hsepA _, vs ++ [Value.str (PySem.Str.ofString "-") _], n + 1, rfl, ?_, rfl, _, rfl⟩
        · rw [List.range_succ, List.map_append, List.map_singleton, fmCh_none hrow hnone, if_neg e0]
          exact htv.snoc_of (by decide +kernel)
    · passes_own
  · intro m₁ news₁ h tk hf
    exact hf.elim
  · intro m₁ news₁ h tk hJ F₁ N₁
    obtain ⟨vs, n, rfl, htv, hpm, tm, hmd⟩ := hJ
    replace htv : Texts vs ((List.range 10).map (fmCh md)) := htv
    replace F₁ := fr_known [(PySem.Str.ofString "perm", _)] F₁ (all1 hpm)
    dsimp only [kstB] at F₁
    have hsum : (((List.range 10).map (fmCh md)).map List.length).sum ≤ 1000000 := by rw [fmCh_sum]; decide
    k_steps
    exact cb_retS hret rfl (by k_asm) (by first | k_asm | exact cb_drop (by assumption) (by kcj_all))
  · passes_own
end Mine
end

section
open PySem PySem.W PyProof.Rows PySem.Calls
set_option Elab.async false
set_option maxRecDepth 100000
set_option maxHeartbeats 0
namespace Mine
section
variable {w : World} {A : Around} {E : Value → Shared → Prop} {s : Shared} {c : Nat} {y : PySem.Str} {t u : Tok} {Q : Value → Shared → Prop}
theorem eq1 {k : Nat} (hy : y = mk [k]) (h : Q (.bool (decide (c = k))) s) : wpAny (model PySem.Challenge.rw_il0084_01.row.prog w) A (compareOp .Eq (.str (mk [c]) t) (.str y u)) Q E s := by
  subst hy
  refine eq_str ?_
  rw [mk_beq, show decide ([c] = [k]) = decide (c = k) by simp]; exact h
theorem ne1 {k : Nat} (hy : y = mk [k]) (h : Q (.bool (decide (c ≠ k))) s) : wpAny (model PySem.Challenge.rw_il0084_01.row.prog w) A (compareOp .NotEq (.str (mk [c]) t) (.str y u)) Q E s := by
  subst hy
  refine ne_str ?_
  rw [show (mk [c] != mk [k]) = decide (c ≠ k) by
    rw [Bool.eq_iff_iff, bne_iff_ne, decide_eq_true_eq]
    exact ⟨fun h e => h (by rw [e]), fun h e => h (by simpa using mk_inj e)⟩]; exact h
theorem in2 {a b : Nat} (hy : y = mk [a, b]) (h : Q (.bool (decide (c = a ∨ c = b))) s) : wpAny (model PySem.Challenge.rw_il0084_01.row.prog w) A (compareOp .In (.str (mk [c]) t) (.str y u)) Q E s := by
  subst hy
  refine in_str ?_
  rw [show mk [c] = ⟨#[c]⟩ from rfl, StrLaws.found_one, mk_toList, show decide (c ∈ [a, b]) = decide (c = a ∨ c = b) by simp]; exact h
theorem in3 {a b d : Nat} (hy : y = mk [a, b, d]) (h : Q (.bool (decide (c = a ∨ c = b ∨ c = d))) s) : wpAny (model PySem.Challenge.rw_il0084_01.row.prog w) A (compareOp .In (.str (mk [c]) t) (.str y u)) Q E s := by
  subst hy
  refine in_str ?_
  rw [show mk [c] = ⟨#[c]⟩ from rfl, StrLaws.found_one, mk_toList, show decide (c ∈ [a, b, d]) = decide (c = a ∨ c = b ∨ c = d) by simp]; exact h
end
/-- the reference that a letter writes for a sign -/
def refL (c g : Nat) : List Nat :=
  if g = 38 then [97, 109, 112, 59] else if g = 60 ∧ c ≠ 120 then [108, 116, 59] else if g = 62 ∧ c ≠ 116 then [103, 116, 59]
  else if g = 34 ∧ (c = 119 ∨ c = 120 ∨ c = 116) then [113, 117, 111, 116, 59]
  else if g = 10 ∧ (c = 119 ∨ c = 116) then (if c = 119 then [35, 49, 48, 59] else [35, 120, 65, 59])
  else if g = 9 ∧ (c = 119 ∨ c = 116) then (if c = 119 then [35, 48, 57, 59] else [35, 120, 57, 59])
  else if g = 13 ∧ (c = 119 ∨ c = 115 ∨ c = 116) then (if c = 119 then [35, 49, 51, 59] else [35, 120, 68, 59]) else []
local macro_rules | `(tactic| k_room) => `(tactic| ktr_room)
local macro_rules | `(tactic| walk_at "compareOp Eq str str") => `(tactic| k_dflt (first | refine eq1 (k := 38) (by decide +kernel) ?_ | refine eq1 (k := 60) (by decide +kernel) ?_ | refine eq1 (k := 62) (by decide +kernel) ?_ | refine eq1 (k := 34) (by decide +kernel) ?_ | refine eq1 (k := 10) (by decide +kernel) ?_ | refine eq1 (k := 9) (by decide +kernel) ?_ | refine eq1 (k := 13) (by decide +kernel) ?_ | refine eq1 (k := 119) (by decide +kernel) ?_))
local macro_rules | `(tactic| walk_at "compareOp NotEq str str") => `(tactic| k_dflt (first | refine ne1 (k := 120) (by decide +kernel) ?_ | refine ne1 (k := 116) (by decide +kernel) ?_))
local macro_rules | `(tactic| walk_at "compareOp In str str") => `(tactic| k_dflt (first | refine in3 (a := 119) (b := 120) (d := 116) (by decide +kernel) ?_ | refine in3 (a := 119) (b := 115) (d := 116) (by decide +kernel) ?_ | refine in2 (a := 119) (b := 116) (by decide +kernel) ?_))
theorem ref_is {c g : Nat} {y : PySem.Str} (l : List Nat) (hy : y = mk l) (h : refL c g = l) : y = mk (refL c g) := by rw [hy, h]
theorem c_ref (w : World) (mean : ExcName → Option Value) (mg mb : PySem.Str → Option Value) (c g : Nat) (t u : Tok) : Cl w mean mg mb 253 3 40 True [.str (mk [c]) t, .str (mk [g]) u] (fun t' => .str (mk (refL c g)) t') := by
  unfold Cl
  k_fill
  intro dp un gd cn cs a ccd cl outer A₀ base h₀ L m news s Q E B F X N T hk pre hdp hu hret
  refine wpAny_call ?_
  k_dflt cell_enter
  k_steps
  all_goals refine cb_retS hret ?_ (by k_asm) (by first | k_asm | exact cb_drop (by assumption) (by kcj_all))
  all_goals (first | refine ref_is [97, 109, 112, 59] (by decide +kernel) ?_ | refine ref_is [108, 116, 59] (by decide +kernel) ?_ | refine ref_is [103, 116, 59] (by decide +kernel) ?_ | refine ref_is [113, 117, 111, 116, 59] (by decide +kernel) ?_ | refine ref_is [35, 49, 48, 59] (by decide +kernel) ?_ | refine ref_is [35, 120, 65, 59] (by decide +kernel) ?_ | refine ref_is [35, 48, 57, 59] (by decide +kernel) ?_ | refine ref_is [35, 120, 57, 59] (by decide +kernel) ?_ | refine ref_is [35, 49, 51, 59] (by decide +kernel) ?_ | refine ref_is [35, 120, 68, 59] (by decide +kernel) ?_ | refine ref_is [] (by decide +kernel) ?_)
  all_goals (unfold refL; repeat' split)
  all_goals first | rfl | (exfalso; omega)
end Mine
end

section
open PySem PySem.W PyProof.Rows PySem.Calls
set_option Elab.async false
set_option maxRecDepth 100000
set_option maxHeartbeats 0
namespace Mine
theorem refL_len (c g : Nat) : (refL c g).length ≤ 5 := by
  unfold refL
  repeat' split
  all_goals simp
/-- what is told of a sign after the letters -/
def toldL (g : Nat) : List Nat → List Nat
  | [] => [g]
  | c :: r => if refL c g = [] then toldL g r else [38] ++ (List.replicate r.length [97, 109, 112, 59]).flatten ++ refL c g
theorem mulw (l : List Nat) (k : Nat) : Txt.mul (mk l) (k : Int) = mk (List.replicate k l).flatten := by
  unfold Txt.mul
  by_cases h1 : (k : Int) < 1
  · rw [if_pos h1]
    obtain rfl : k = 0 := by omega
    rfl
  · rw [if_neg h1]
    have hf : ∀ (n : Nat) (a : List Nat), ((List.replicate n (mk l).cps).foldl (fun x1 x2 => x1 ++ x2) a.toArray) = (a ++ (List.replicate n l).flatten).toArray := by
      intro n
      induction n with
      | zero => intro a; simp
      | succ n ih =>
        intro a
        rw [List.replicate_succ, List.foldl_cons]
        have e : a.toArray ++ (mk l).cps = (a ++ l).toArray := by simp [mk]
        rw [e, ih, List.replicate_succ, List.flatten_cons, List.append_assoc]
    split
    · rename_i h2
      rw [Bool.or_eq_true] at h2
      rcases h2 with h2 | h2
      · obtain rfl : k = 1 := by have := of_decide_eq_true h2; omega
        simp
      · have h3 : l = [] := by
          have := of_decide_eq_true h2
          rw [mk_len] at this
          exact List.eq_nil_of_length_eq_zero this
        subst h3
        have : (List.replicate k ([] : List Nat)).flatten = [] := by simp
        rw [this]
    · rw [Int.toNat_natCast]
      have := hf k []
      rw [List.nil_append] at this
      show (⟨_⟩ : PySem.Str) = ⟨_⟩
      rw [this]
theorem size_up (n : Nat) : Builtin.Range.rangeSize 0 n 1 = (n : Int) := by
  unfold Builtin.Range.rangeSize
  rw [if_pos (by decide)]
  split <;> omega
theorem size_down (n : Nat) : Builtin.Range.rangeSize ((n : Int) - 1) (-1) (-1) = (n : Int) := by
  unfold Builtin.Range.rangeSize
  rw [if_neg (by decide), show (-(-1 : Int)) = 1 from rfl, Int.ediv_one]
  split <;> omega
theorem fits_of {i : Int} (h : -1000000 ≤ i) (h2 : i ≤ 1000000) : Builtin.Range.rangeFitsLong i = true := by
  unfold Builtin.Range.rangeFitsLong
  rw [Bool.and_eq_true, decide_eq_true_eq, decide_eq_true_eq]
  constructor <;> omega
theorem small_up {n : Nat} (h : n ≤ 100000) : Builtin.Range.small 0 n 1 = true := by
  unfold Builtin.Range.small
  rw [size_up, fits_of (by omega) (by omega), fits_of (by omega) (by omega), fits_of (by omega) (by omega), if_pos (by decide), fits_of (by omega) (by omega)]
  simp
theorem small_down {n : Nat} (h : n ≤ 100000) : Builtin.Range.small ((n : Int) - 1) (-1) (-1) = true := by
  unfold Builtin.Range.small
  rw [size_down, fits_of (by omega) (by omega), fits_of (by omega) (by omega), fits_of (by omega) (by omega), if_neg (by decide), fits_of (by omega) (by omega)]
  simp
section
variable {w : World} {A : Around} {E : Value → Shared → Prop} {s : Shared}
theorem mulw_mk {l : List Nat} {y : PySem.Str} {n : Int} {k : Nat} {t u : Tok} {Q : Value → Shared → Prop} (hy : y = mk l) (hk : n = k) (hl : l.length ≤ 16) (hn : k ≤ 1048576) (h : ∀ t' k', Q (.str (mk (List.replicate k l).flatten) t') { s with toks := k' }) :
    wpAny (model PySem.Challenge.rw_il0084_01.row.prog w) A (binaryOp .Mult (.str y t) (.int n u)) Q E s := by
  subst hy hk
  refine SB.mul (mulOk_of 16 1048576 (by rw [mk_len]; omega) (by omega) (by omega) (by decide) (by decide)) ?_
  have e : Txt.mul (mk l) (k : Int) = mk (List.replicate k l).flatten := mulw l k
  rw [e]
  exact h
theorem ne_nil {l : List Nat} {y : PySem.Str} {t u : Tok} {Q : Value → Shared → Prop} (hy : y = mk []) (h : Q (.bool (decide (l ≠ []))) s) : wpAny (model PySem.Challenge.rw_il0084_01.row.prog w) A (compareOp .NotEq (.str (mk l) t) (.str y u)) Q E s := by
  subst hy; refine ne_mk ?_; exact h
theorem add_is {x y : PySem.Str} {la lb : List Nat} {t u : Tok} {Q : Value → Shared → Prop} (hx : x = mk la) (hy : y = mk lb) (hz : la.length + lb.length ≤ 10000000) (h : ∀ t' tk, Q (.str (mk (la ++ lb)) t') { s with toks := tk }) : wpAny (model PySem.Challenge.rw_il0084_01.row.prog w) A (binaryOp .Add (.str x t) (.str y u)) Q E s := by
  subst hx hy; exact add_mk hz h
theorem item_at {l : List Nat} {n : Int} {c i : Nat} {t u : Tok} {value slice : PySem.Expr} {Q : Value → Shared → Prop} (hi : n = i) (hc : l[i]? = some c) (hs : i ≤ 1000000) (h : ∀ t' k, Q (.str (mk [c]) t') { s with toks := k })
    (hs' : subscripted slice false (.str (mk l) t) (.int n u) = operate [.str (mk l) t, .int n u] (getItem (.str (mk l) t) (.int n u)) := by with_unfolding_all rfl) :
    wpAny (model PySem.Challenge.rw_il0084_01.row.prog w) A (subscriptTail value slice (.str (mk l) t) (.int n u)) Q E s := by
  subst hi
  have hlt := (List.getElem?_eq_some_iff.mp hc).1
  refine tail_any (typeIs_str _ _ _) F.slot_str_getitem.lookup (getItem_str (c := c) ?_ ?_ (h _ _)) hs'
  · rw [Bool.or_eq_false_iff]
    exact ⟨decide_eq_false (by omega), decide_eq_false (by omega)⟩
  · have e : seqIndex? (i : Int) (mk l).length = some i := by
      rw [mk_len]
      unfold seqIndex?
      simp
      omega
    rw [e]
    show (mk l).cps[i]? = some c
    rw [← Array.getElem?_toList, mk_toList]; exact hc
end
local macro_rules | `(tactic| k_room) => `(tactic| ktr_room)
local macro_rules | `(tactic| walk_at "subscriptTail Name Name str int") => `(tactic| k_dflt (refine item_at rfl (by assumption) (by omega) ?_; intro _ _))
local macro_rules | `(tactic| walk_at "compareOp NotEq str str") => `(tactic| k_dflt (refine ne_nil (by decide +kernel) ?_))
local macro_rules | `(tactic| walk_at "binaryOp Mult str int") => `(tactic| k_dflt (refine mulw_mk (l := [97, 109, 112, 59]) (by decide +kernel) (by assumption) (by decide) (by omega) ?_; intro _ _))
local macro_rules | `(tactic| walk_at "binaryOp Add str str") => `(tactic| k_dflt (first | refine add_is (la := [38]) (by decide +kernel) rfl (by (try simp only [List.length_append, List.length_cons, List.length_nil]); omega) ?_ | refine add_mk (by (try simp only [List.length_append, List.length_cons, List.length_nil]); omega) ?_); k_dflt (intro _ _))
local macro_rules | `(tactic| walk_at "call builtin:len") => `(tactic| k_dflt (refine len_mk (by omega) ?_))
local macro_rules | `(tactic| size_fits) => `(tactic| (rw [PySem.sizeLine_eq]; (try simp only [mk_len]); omega))
local macro_rules | `(tactic| walk_at "call ref") => `(tactic| (k_here; k_dflt (refine' Cl.use (c_ref _ _ _ _ _ _ _ _) ?k1 ?k2 ?k3 ?k4 ?k5 ?kK ?kp ?kd ?ku ?_); k_dflt ((case k1 => k_asm); (case k2 => k_asm); (case k3 => k_asm); (case k4 => k_asm); (case k5 => k_asm); (case kK => exact rfl); (case kp => first | trivial | assumption); (case kd => first | omega | (dsimp only [Around.deeper, ktrTop]; omega)); (case ku => first | omega | (dsimp only [Around.deeper, ktrTop]; omega)); k_whole; intro t9 h9 tk9 F9 N9; (try dsimp only); (try k_fold))))
theorem c_told (w : World) (mean : ExcName → Option Value) (mg mb : PySem.Str → Option Value) (g : Nat) (cs : List Nat) (t u : Tok) : Cl w mean mg mb 260 4 60 (cs.length ≤ 1000) [.str (mk [g]) t, .str (mk cs) u] (fun t' => .str (mk (toldL g cs)) t') := by
  unfold Cl
  k_fill
  intro dp un gd cn cs' a ccd cl outer A₀ base h₀ L m news s Q E B F X N T hk pre hdp hu hret
  refine wpAny_call ?_
  k_dflt cell_enter
  iterate 2 walk1
  (rename Fr _ _ _ _ => lF')
  with_unfolding_all refine For_invVF lF' rfl rfl ?_
  iterate 13 walk1
  (rename Fr _ _ _ _ => lF2)
  (rename News _ _ _ _ => lN2)
  (rename IsRange _ _ _ _ _ _ _ _ => R2)
  refine iter_range (n := cs.length) (fun i m nx => nx = news ∧ toldL g (cs.drop i) = toldL g cs ∧ (∃ t, m (PySem.Str.ofString "sign") = some (.str (mk [g]) t)) ∧ (∃ t, m (PySem.Str.ofString "letters") = some (.str (mk cs) t)))
    rfl R2 ?_ ?_ lF2 lN2 ⟨rfl, rfl, ⟨_, rfl⟩, ⟨_, rfl⟩⟩ ?_ ?_
  · exact small_up (by omega)
  · exact size_up _
  · intro i tk₀ m₁ news₁ h tk own hi hJ hsep F₁ N₁
    obtain ⟨rfl, htold, ⟨t1, h1⟩, ⟨t2, h2⟩⟩ := hJ
    replace F₁ := fr_known_x [(PySem.Str.ofString "sign", _), (PySem.Str.ofString "letters", _)] F₁ (all2 h1 h2)
    dsimp only [kstB] at F₁
    have hdrop : cs.drop i = cs[i] :: cs.drop (i + 1) := List.drop_eq_getElem_cons hi
    rw [show (0 : Int) + (i : Int) * 1 = (i : Int) by omega] at F₁
    have hci : cs[i]? = some cs[i] := List.getElem?_eq_getElem hi
    have hamt : (cs.length : Int) - (i : Int) - 1 = ((cs.drop (i + 1)).length : Nat) := by rw [List.length_drop]; omega
    have haml : (cs.drop (i + 1)).length ≤ 1000 := by rw [List.length_drop]; omega
    have hamp : ((List.replicate (cs.drop (i + 1)).length [97, 109, 112, 59]).flatten).length ≤ 4000 := by simp; omega
    have hrl := refL_len cs[i] g
    k_steps
    · dsimp only [StepPost]
      k_steps
      have hr : refL cs[i] g ≠ [] := by assumption
      exact cb_retS hret (by rw [← htold, hdrop, toldL, if_neg hr]) (by k_asm) (by first | k_asm | exact cb_drop (by assumption) (by kcj_all))
    · refine ⟨_, _, _, news₁, rfl, (by k_asm), (by k_asm), hsep, rfl, ?_, ⟨_, rfl⟩, ⟨_, rfl⟩⟩
      have hr : refL cs[i] g = [] := Decidable.not_not.mp (by assumption)
      rw [← htold, hdrop, toldL, if_pos hr]
  · intro m₁ news₁ h tk hJ F₁ N₁
    obtain ⟨rfl, htold, ⟨t1, h1⟩, ⟨t2, h2⟩⟩ := hJ
    replace F₁ := fr_known [(PySem.Str.ofString "sign", _)] F₁ (all1 h1)
    dsimp only [kstB] at F₁
    rw [List.drop_length] at htold
    k_steps
    exact cb_retS hret (by rw [← htold]; rfl) (by k_asm) (by first | k_asm | exact cb_drop (by assumption) (by kcj_all))
end Mine
end

section
open PySem PySem.W PyProof.Rows PySem.Calls
set_option Elab.async false
set_option maxRecDepth 100000
set_option maxHeartbeats 0
namespace Mine
/-- a triple's letters -/
def partL (rho pl ab mark : Nat) : List Nat :=
  (if rho / pl % 8 / 4 = 1 then [114] else []) ++ (if rho / pl % 8 / 2 % 2 = 1 then [119] else []) ++ (if rho / pl % 8 % 2 = 1 then (if rho / ab % 2 = 1 then [mark] else [120]) else [])
def trips : List (Nat × Nat × Nat) := [(64, 2048, 115), (8, 1024, 115), (1, 512, 116)]
def lettersL (rho : Nat) : List Nat := (trips.map fun p => partL rho p.1 p.2.1 p.2.2).flatten
theorem partL_len (rho pl ab mark : Nat) : (partL rho pl ab mark).length ≤ 3 := by
  unfold partL
  repeat' split
  all_goals simp
theorem letters_part (rho : Nat) : ∀ l : List (Nat × Nat × Nat), ((l.map fun p => partL rho p.1 p.2.1 p.2.2).flatten).length ≤ 3 * l.length
  | [] => by simp
  | p :: r => by
    have := letters_part rho r
    have := partL_len rho p.1 p.2.1 p.2.2
    rw [List.map_cons, List.flatten_cons, List.length_append, List.length_cons]; omega
theorem lettersL_len (rho : Nat) : (lettersL rho).length ≤ 9 := letters_part rho trips
section
variable {w : World} {A : Around} {E : Value → Shared → Prop} {s : Shared}
theorem fdiv_nat {a b : Nat} {y : Int} {t u : Tok} {Q : Value → Shared → Prop} (hy : y = b) (hb : 0 < b) (hs : b ≤ 1000000) (h : Q (.int ((a / b : Nat) : Int) s.toks) { s with toks := s.toks + 1 }) :
    wpAny (model PySem.Challenge.rw_il0084_01.row.prog w) A (binaryOp .FloorDiv (.int (a : Int) t) (.int y u)) Q E s := by
  subst hy
  refine floordiv_int (by omega) ?_ (Or.inl (PyProof.noPylong_small (by omega)))
  rw [Int.fdiv_eq_ediv_of_nonneg _ (by omega), ← Int.natCast_ediv]; exact h
theorem mod_nat {a b : Nat} {y : Int} {t u : Tok} {Q : Value → Shared → Prop} (hy : y = b) (hb : 0 < b) (h : Q (.int ((a % b : Nat) : Int) s.toks) { s with toks := s.toks + 1 }) :
    wpAny (model PySem.Challenge.rw_il0084_01.row.prog w) A (binaryOp .Mod (.int (a : Int) t) (.int y u)) Q E s := by
  subst hy
  refine mod_int' (by omega) ?_
  rw [Int.fmod_eq_emod_of_nonneg _ (by omega), ← Int.natCast_emod]; exact h
theorem eq_nat {a b : Nat} {y : Int} {t u : Tok} {Q : Value → Shared → Prop} (hy : y = b) (h : Q (.bool (decide (a = b))) s) :
    wpAny (model PySem.Challenge.rw_il0084_01.row.prog w) A (compareOp .Eq (.int (a : Int) t) (.int y u)) Q E s := by
  subst hy
  refine eq_int ?_
  rw [show ((a : Int) == (b : Int)) = decide (a = b) by rw [Bool.eq_iff_iff, beq_iff_eq, decide_eq_true_eq]; exact Int.ofNat_inj]; exact h
theorem iadd_is {y : PySem.Str} {la lb : List Nat} {t u : Tok} {Q : Value → Shared → Prop} (hy : y = mk lb) (hz : la.length + lb.length ≤ 10000000) (h : ∀ t' tk, Q (.str (mk (la ++ lb)) t') { s with toks := tk }) : wpAny (model PySem.Challenge.rw_il0084_01.row.prog w) A (inplaceOp .Add (.str (mk la) t) (.str y u)) Q E s := by
  subst hy; exact iadd_mk hz h
end
local macro_rules | `(tactic| k_room) => `(tactic| ktr_room)
local macro_rules | `(tactic| walk_at "binaryOp FloorDiv int int") => `(tactic| k_dflt (first | refine fdiv_nat (b := 2) rfl (by decide) (by decide) ?_ | refine fdiv_nat (b := 4) rfl (by decide) (by decide) ?_ | refine fdiv_nat rfl (by assumption) (by assumption) ?_))
local macro_rules | `(tactic| walk_at "binaryOp Mod int int") => `(tactic| k_dflt (first | refine mod_nat (b := 2) rfl (by decide) ?_ | refine mod_nat (b := 8) rfl (by decide) ?_))
local macro_rules | `(tactic| walk_at "compareOp Eq int int") => `(tactic| k_dflt (refine eq_nat (b := 1) rfl ?_))
local macro_rules | `(tactic| walk_at "inplaceOp Add str str") => `(tactic| k_dflt ((first | refine iadd_is (lb := [114]) (by decide +kernel) (by (try simp only [List.length_append, List.length_cons, List.length_nil]); omega) ?_ | refine iadd_is (lb := [119]) (by decide +kernel) (by (try simp only [List.length_append, List.length_cons, List.length_nil]); omega) ?_ | refine iadd_is (lb := [120]) (by decide +kernel) (by (try simp only [List.length_append, List.length_cons, List.length_nil]); omega) ?_ | refine iadd_mk (by (try simp only [List.length_append, List.length_cons, List.length_nil]); omega) ?_); intro _ _))
theorem told_is {l l' : List Nat} {t : Tok} (h : l = l') : some (Value.str (mk l) t) = some (Value.str (mk l') t) := by rw [h]
theorem part_next (rho j : Nat) (hj : j < trips.length) : ((trips.take (j + 1)).map fun p => partL rho p.1 p.2.1 p.2.2).flatten = ((trips.take j).map fun p => partL rho p.1 p.2.1 p.2.2).flatten ++ partL rho trips[j].1 trips[j].2.1 trips[j].2.2 := by
  rw [List.take_add_one, List.getElem?_eq_getElem hj, List.map_append, List.flatten_append]
  show _ ++ (partL rho trips[j].1 trips[j].2.1 trips[j].2.2 ++ []) = _
  rw [List.append_nil]
theorem news_split {h₀ h : Heap} {L : Addr} {p : Addr × Obj} {tl : List (Addr × Obj)} (N : News h₀ L h (p :: tl)) : ∃ d o tl', (d, o) = p ∧ tl' = tl ∧ News h₀ L h ((d, o) :: tl') := ⟨p.1, p.2, tl, rfl, rfl, N⟩
theorem trip_at {h₀ h : Heap} {L D1 D2 D3 : Addr} {t1 t2 t3 t4 t5 t6 t7 t8 t9 : Tok} {news : List (Addr × Obj)}
    (N : News h₀ L h ((D3, { cls := .type "tuple", data := .seq #[.int 1 t1, .int 512 t2, .str (PySem.Str.ofString "t") t3] }) :: (D2, { cls := .type "tuple", data := .seq #[.int 8 t4, .int 1024 t5, .str (PySem.Str.ofString "s") t6] }) ::
      (D1, { cls := .type "tuple", data := .seq #[.int 64 t7, .int 2048 t8, .str (PySem.Str.ofString "s") t9] }) :: news)) (j : Nat) (p : Nat × Nat × Nat) (v : Value) (hp : trips[j]? = some p) (hv : [Value.ref D1, .ref D2, .ref D3][j]? = some v) :
    (0 < p.1 ∧ p.1 ≤ 1000000 ∧ 0 < p.2.1 ∧ p.2.1 ≤ 1000000) ∧ ∃ a t1 t2 t3, v = Value.ref a ∧ h.IsTuple a #[.int (p.1 : Int) t1, .int (p.2.1 : Int) t2, .str (mk [p.2.2]) t3] := by
  have es : PySem.Str.ofString "s" = mk [115] := by decide +kernel
  have et : PySem.Str.ofString "t" = mk [116] := by decide +kernel
  rw [es, et] at N
  match j, hp, hv with
  | 0, hp, hv =>
    obtain rfl := Option.some.inj hp
    obtain rfl := Option.some.inj hv
    exact ⟨by decide, _, _, _, _, rfl, _, (N _ (List.mem_cons_of_mem _ (List.mem_cons_of_mem _ (List.mem_cons_self ..)))).1, rfl, 0, rfl⟩
  | 1, hp, hv =>
    obtain rfl := Option.some.inj hp
    obtain rfl := Option.some.inj hv
    exact ⟨by decide, _, _, _, _, rfl, _, (N _ (List.mem_cons_of_mem _ (List.mem_cons_self ..))).1, rfl, 0, rfl⟩
  | 2, hp, hv =>
    obtain rfl := Option.some.inj hp
    obtain rfl := Option.some.inj hv
    exact ⟨by decide, _, _, _, _, rfl, _, (N _ (List.mem_cons_self ..)).1, rfl, 0, rfl⟩
  | _ + 3, hp, hv => exact absurd hv (by simp)
theorem c_letters (w : World) (mean : ExcName → Option Value) (mg mb : PySem.Str → Option Value) (rho : Nat) (t : Tok) : Cl w mean mg mb 246 3 40 (rho ≤ 100000) [.int (rho : Int) t] (fun t' => .str (mk (lettersL rho)) t') := by
  unfold Cl
  k_fill
  intro dp un gd cn cs' a ccd cl outer A₀ base h₀ L m news s Q E B F X N T hk pre hdp hu hret
  refine wpAny_call ?_
  k_dflt cell_enter
  iterate 6 walk1
  refine wpAny_For ?_
  iterate 33 walk1
  (rename Fr _ _ _ _ => lF3)
  (rename News _ _ _ _ => lN3)
  (rename _ < _ ∧ _ < _ ∧ _ < _ ∧ AllLt _ news => hlt)
  obtain ⟨hl1, hl2, hl3, hl4⟩ := hlt
  have hltn := lt_of_all hl4
  obtain ⟨D, o, tl, ho, htl, lN4⟩ := news_split lN3
  have hD : Heap.IsTuple _ D #[_, _, _] := ⟨o, (lN4 _ (List.mem_cons_self ..)).1, (by obtain ⟨rfl, rfl⟩ := Prod.mk.inj ho; rfl), 0, (by obtain ⟨rfl, rfl⟩ := Prod.mk.inj ho; rfl)⟩
  have hDne : ∀ q ∈ tl, q.1 ≠ D := by
    obtain ⟨rfl, rfl⟩ := Prod.mk.inj ho
    rw [htl]
    intro q hq
    simp only [List.mem_cons] at hq
    rcases hq with rfl | rfl | rfl | hq
    · exact Nat.ne_of_lt hl1
    · exact Nat.ne_of_lt hl2
    · exact Nat.ne_of_lt hl3
    · exact Nat.ne_of_lt (hltn q hq)
  obtain ⟨rfl, rfl⟩ := Prod.mk.inj ho
  refine wpAny_pyIter_tuple hD ?_
  refine For_my (news := tl) (fun i m nx => nx = tl ∧ (∃ t, m (PySem.Str.ofString "told") = some (.str (mk ((trips.take i).map fun p => partL rho p.1 p.2.1 p.2.2).flatten) t)) ∧ ∃ t, m (PySem.Str.ofString "rights") = some (.int (rho : Int) t))
    (fun _ _ => False) (KTurns.ofWalks (Walks.tuple rfl _ _ (Nat.ne_of_lt (lt_tup hD)) _) fun i v s Q E st q => letGo_tupleiter st.1 q) ?_ ?_ ?_ ?_ ⟨⟨_, Heap.get?_push_size _ rfl, rfl, rfl⟩, hD.at fun o e => Heap.get?_push_of_some _ e⟩ (lF3.push _)
      (fun p hp => ⟨Heap.get?_push_of_some _ (lN4 p (List.mem_cons_of_mem _ hp)).1, (lN4 p (List.mem_cons_of_mem _ hp)).2⟩) ⟨rfl, ⟨_, rfl⟩, ⟨_, rfl⟩⟩ ?_ ?_ ?_ ?_
  · intro hm
    have h1 := lF3.ns.lt
    have h2 := lt_tup hD
    have h3 := (lN4 _ (List.mem_cons_self ..)).2.1
    simp only [List.mem_cons, List.not_mem_nil, or_false] at hm
    rcases hm with e | e
    · exact absurd (Nat.lt_of_le_of_lt (Nat.le_of_eq (Eq.symm e)) h1) (Nat.lt_irrefl _)
    · exact h3 e.symm
  · intro b hb
    rw [List.mem_singleton.mp hb]
    exact next_is_new lF3
  · rintro i h ⟨⟨o1, h1, _⟩, ⟨o2, h2, _⟩⟩ b hb
    simp only [List.mem_cons, List.not_mem_nil, or_false] at hb
    rcases hb with rfl | rfl
    · exact ⟨_, h1⟩
    · exact ⟨_, h2⟩
  · intro q hq hm
    have h1 : q.1 < _ := Heap.lt_size (lN4 q (List.mem_cons_of_mem _ hq)).1
    simp only [List.mem_cons, List.not_mem_nil, or_false] at hm
    rcases hm with e | e
    · rw [e] at h1; exact absurd h1 (Nat.lt_irrefl _)
    · exact hDne q hq e
  · intro j v m₂ news₂ h₂ tk₂ own₂ hj hP₂ hJ₂ hsep₂ F₂ N₂
    obtain ⟨rfl, ⟨t1, hm1⟩, ⟨t2, hm2⟩⟩ := hJ₂
    have hj3 : j < trips.length := hj
    have hN := N₂
    rw [htl, List.cons_append, List.cons_append, List.cons_append] at hN
    obtain ⟨⟨hp1, hp2, hp3, hp4⟩, b, tb1, tb2, tb3, rfl, hbt⟩ := trip_at hN j trips[j] v (by simp [hj3]) (by simpa using hP₂)
    clear hN
    replace F₂ := fr_known [(PySem.Str.ofString "told", _), (PySem.Str.ofString "rights", _)] F₂ (all2 hm1 hm2)
    dsimp only [kstB] at F₂
    have hlen := letters_part rho (trips.take j)
    have hlen2 : (trips.take j).length ≤ 3 := by simp [trips] at hj3 ⊢; omega
    k_steps
    all_goals refine ⟨_, _, _, news₂, rfl, (by k_asm), (by k_asm), hsep₂, rfl, ⟨_, told_is ?_⟩, ⟨_, rfl⟩⟩
    all_goals rw [part_next rho j hj3]
    all_goals unfold partL
    all_goals repeat' split
    all_goals first | contradiction | simp
  · intro m₁ news₁ h tk hf
    exact hf.elim
  · intro m₁ news₁ h tk hJ F₁ N₁
    obtain ⟨rfl, ⟨t1, hm1⟩, _⟩ := hJ
    replace F₁ := fr_known [(PySem.Str.ofString "told", _)] F₁ (all1 hm1)
    dsimp only [kstB] at F₁
    rw [htl] at N₁
    k_steps
    exact cb_retS hret rfl (by k_asm) (by first | k_asm | exact cb_drop (by assumption) (by kcj_all))
  · passes_own
end Mine
end

section
open PySem PySem.W PyProof.Rows PySem.Calls
set_option Elab.async false
set_option maxRecDepth 100000
set_option maxHeartbeats 0
namespace Mine
section
variable {prog : Program} {w : World} {A : Around} {E : Value → Shared → Prop} {s : Shared} {h₀ : Heap} {L : Addr} {m : PySem.Str → Option Value} {env : Env}
def EltPost (h₀ : Heap) (L : Addr) (m : PySem.Str → Option Value) (s : Shared) (news : List (Addr × Obj)) (R : Value → Prop) (y : Value) (s₂ : Shared) : Prop :=
  ∃ h' tk', s₂ = { s with heap := h', toks := tk' } ∧ Fr h₀ L h' m ∧ News h₀ L h' news ∧ R y
/-- a block's element: any heap, the ledger with the block's three objects ahead -/
def EltOk (prog : Program) (w : World) (A : Around) (h₀ : Heap) (L : Addr) (m : PySem.Str → Option Value) (env : Env) (elt : PySem.Expr) (x : PySem.Str) (scope : Scope) (cl : List (PySem.Str × Addr)) (s : Shared) (news : List (Addr × Obj)) (v : Value) (R : Value → Prop) : Prop :=
  ∀ I oI C oC D oD m₂ h tk (E' : Value → Shared → Prop), LCg.NsObj oC m₂ → m₂ x = some v → Fr h₀ L h m → News h₀ L h ((I, oI) :: (C, oC) :: (D, oD) :: news) → (∀ p ∈ news, p.1 ≠ I ∧ p.1 ≠ C ∧ p.1 ≠ D) → ((@Ne Nat I C) ∧ (@Ne Nat I D) ∧ (@Ne Nat C D)) →
    wpAny (model prog w) A (eval elt (compEnvC scope cl C env)) (EltPost h₀ L m s ((I, oI) :: (C, oC) :: (D, oD) :: news) R) E' { s with heap := h, toks := tk }
theorem comp_all {elt : PySem.Expr} {x : PySem.Str} {scope : Scope} {cl : List (PySem.Str × Addr)} {S : List (Addr × Obj) → Prop} {P : Nat → Value → Prop} {Fin : List Value → List (Addr × Obj) → Prop} {news : List (Addr × Obj)} (R : Nat → Value → Prop) (n : Nat) (hS : S news)
    (step : ∀ i v, i < n → P i v → EltOk prog w A h₀ L m env elt x scope cl s news v (R i))
    (fin : ∀ ys : List Value, ys.length = n → (∀ i y, ys[i]? = some y → R i y) → Fin ys news) :
    LCg.CompRest prog w A h₀ L m env elt x scope cl s S P Fin n 0 [] news := by
  have main : ∀ k i ys, i + k = n → ys.length = i → (∀ j y, ys[j]? = some y → R j y) → LCg.CompRest prog w A h₀ L m env elt x scope cl s S P Fin k i ys news := by
    intro k
    induction k with
    | zero =>
      intro i ys hk hl hR
      exact LCg.CompRest.zero (fin ys (by omega) hR)
    | succ k ih =>
      intro i ys hk hl hR
      refine LCg.CompRest.succ ?_
      intro v I oI C oC D m₂ h tk E' hP hC hx F N off ne
      refine wpAny_mono (step i v (by omega) hP I oI C oC D _ m₂ h tk E' hC hx F N off.mem ne) (fun y s₂ hy => ?_) fun _ _ e => e
      obtain ⟨h', tk', rfl, F', N', hR'⟩ := hy
      refine LCg.CompEnd.intro F' N' news (fun p hp => hp) off hS (ih (i + 1) (ys ++ [y]) (by omega) (by simp [hl]) ?_)
      intro j z hz
      by_cases hj : j < i
      · rw [List.getElem?_append_left (by omega)] at hz
        exact hR j z hz
      · rw [List.getElem?_append_right (by omega)] at hz
        have : j = i := by
          have := (List.getElem?_eq_some_iff.mp hz).1
          simp at this; omega
        subst this
        rw [hl, Nat.sub_self] at hz
        obtain rfl : y = z := by simpa using hz
        exact hR'
  exact main n 0 [] (by omega) rfl (fun j y h => by simp at h)
/-- where a block's iterable came out -/
def MySrc (prog : Program) (w : World) (A : Around) (h₀ : Heap) (L : Addr) (m : PySem.Str → Option Value) (env : Env) (elt : PySem.Expr) (x : PySem.Str) (scope : Scope) (cl : List (PySem.Str × Addr)) (Fin : Shared → List Value → List (Addr × Obj) → Prop) (xv : Value) (s₁ : Shared) : Prop :=
  LCg.CompSrc prog w A h₀ L m env elt x scope cl Fin xv s₁
theorem lc_eval {elt iter : PySem.Expr} {x : PySem.Str} {px : Pos} {scope : Scope} {cl : List (PySem.Str × Addr)} {pos : Pos} {Q : Value → Shared → Prop} (F₀ : Fr h₀ L s.heap m)
    (hclos : closureFor scope env = pure cl) (hcell : ∀ y ∈ scope.names, y.2 ≠ .cell) (hkind : scope.kind = .function)
    (hnames : ∀ y ∈ scope.names, y.2 = .local → scope.names.lookup y.1 = some .local) (hx : scope.names.lookup x = some .local)
    (h : wpAny (model prog w) A (eval iter env) (MySrc prog w A h₀ L m env elt x scope cl (fun s₂ => LCg.FinE h₀ L m s₂ Q)) E s)
    (hs : ∀ x, foldedSetIterable iter env x = pure x := by intro _; rfl) :
    wpAny (model prog w) A (eval (.ListComp elt [⟨.Name x px, iter, [], 0⟩] scope pos) env) Q E s := LCg.ListComp_U F₀ hclos hcell hkind hnames hx h hs
theorem lc_assign {elt iter : PySem.Expr} {x y : PySem.Str} {px py : Pos} {scope : Scope} {cl : List (PySem.Str × Addr)} {pos spos : Pos} {Q : Flow → Shared → Prop} (F₀ : Fr h₀ L s.heap m) (hLe : env.locals = L)
    (hsw : swapsWith (.ListComp elt [⟨.Name x px, iter, [], 0⟩] scope pos) (some (.Name y py)) spos.line env = pure true)
    (hclos : closureFor scope env = pure cl) (hcell : ∀ z ∈ scope.names, z.2 ≠ .cell) (hkind : scope.kind = .function)
    (hnames : ∀ z ∈ scope.names, z.2 = .local → scope.names.lookup z.1 = some .local) (hx : scope.names.lookup x = some .local)
    (hy : env.kindOf y = some .local) (hp : (env.scope.kind == .class || (env.scope.kind == .module && env.locals != env.globals)) = false)
    (h : wpAny (model prog w) A (eval iter env) (MySrc prog w A h₀ L m env elt x scope cl (fun s₂ => LCg.FinA h₀ L m s₂ y Q)) E s)
    (hs : ∀ x, foldedSetIterable iter env x = pure x := by intro _; rfl) :
    wpAny (model prog w) A (exec (.Assign [.Name y py] (.ListComp elt [⟨.Name x px, iter, [], 0⟩] scope pos) spos) env) Q E s := LCg.Assign_ListComp_U F₀ hLe hsw hclos hcell hkind hnames hx hy hp h hs
theorem src_ledger {elt : PySem.Expr} {x : PySem.Str} {scope : Scope} {cl : List (PySem.Str × Addr)} {Fin : Shared → List Value → List (Addr × Obj) → Prop} {ax : Addr} {vs : List Value} {k : Nat} {news : List (Addr × Obj)} {s₁ : Shared} (R : Nat → Value → Prop)
    (hh : A.handled = none) (F : Fr h₀ L s₁.heap m) (N : News h₀ L s₁.heap news) (hm : (ax, W.listOf vs.toArray k) ∈ news) (hsz : vs.length ≤ sizeLine)
    (step : ∀ g i v, vs[i]? = some v → EltOk prog w A h₀ L m env elt x scope cl { s₁ with heap := g } news v (R i))
    (fin : ∀ (g : Heap) (ys : List Value), ys.length = vs.length → (∀ i y, ys[i]? = some y → R i y) → Fin { s₁ with heap := g } ys news) :
    MySrc prog w A h₀ L m env elt x scope cl Fin (.ref ax) s₁ := by
  refine LCg.CompSrc.ledger hh F N hm (by rw [List.size_toArray]; exact hsz) fun g => ?_
  refine comp_all R _ (Or.inr ⟨_, hm, rfl, _, rfl⟩) (fun i v hi hP => step g i v (by simpa using hP)) fun ys hl hR => fin g ys (by simpa using hl) hR
theorem src_range {elt : PySem.Expr} {x : PySem.Str} {scope : Scope} {cl : List (PySem.Str × Addr)} {Fin : Shared → List Value → List (Addr × Obj) → Prop} {r : Addr} {a b : Int} {t u v : Tok} {n : Nat} {news : List (Addr × Obj)} {s₁ : Shared} (R : Nat → Value → Prop)
    (hh : A.handled = none) (F : Fr h₀ L s₁.heap m) (N : News h₀ L s₁.heap news) (hr : IsRange s₁.heap r a b 1 t u v) (hsm : Builtin.Range.small a b 1 = true) (hn : Builtin.Range.rangeSize a b 1 = ((n : Nat) : Int)) (hsz : n ≤ sizeLine)
    (step : ∀ g i t, i < n → EltOk prog w A h₀ L m env elt x scope cl { s₁ with heap := g } news (.int (a + (i : Int)) t) (R i))
    (fin : ∀ (g : Heap) (ys : List Value), ys.length = n → (∀ i y, ys[i]? = some y → R i y) → Fin { s₁ with heap := g } ys news) :
    MySrc prog w A h₀ L m env elt x scope cl Fin (.ref r) s₁ := by
  refine LCg.CompSrc.range hh F N hr hsm hn hsz fun g => ?_
  refine comp_all R _ trivial (fun i v hi hP => ?_) fun ys hl hR => fin g ys hl hR
  obtain ⟨t, rfl⟩ := hP
  exact step g i t hi
end
end Mine
end

section
open PySem PySem.W PyProof.Rows PySem.Calls
set_option Elab.async false
set_option maxRecDepth 100000
set_option maxHeartbeats 0
namespace Mine
/-- values of data, up to tokens -/
def Vals {α : Type} (f : α → Tok → Value) (vs : List Value) (as : List α) : Prop := vs.length = as.length ∧ ∀ (i : Nat) (v : Value), vs[i]? = some v → ∃ a t, as[i]? = some a ∧ v = f a t
theorem Vals.get {α : Type} {f : α → Tok → Value} {vs : List Value} {as : List α} (h : Vals f vs as) {i : Nat} {a : α} (ha : as[i]? = some a) : ∃ t, vs[i]? = some (f a t) := by
  have hi := (List.getElem?_eq_some_iff.mp ha).1
  have hl : i < vs.length := by rw [h.1]; exact hi
  have hv : vs[i]? = some vs[i] := List.getElem?_eq_getElem hl
  obtain ⟨a', t, ha', hv'⟩ := h.2 i _ hv
  rw [ha] at ha'
  obtain rfl := Option.some.inj ha'
  exact ⟨t, by rw [hv, hv']⟩
theorem Vals.append {α : Type} {f : α → Tok → Value} {vs ws : List Value} {as bs : List α} (h : Vals f vs as) (k : Vals f ws bs) : Vals f (vs ++ ws) (as ++ bs) := by
  refine ⟨by rw [List.length_append, List.length_append, h.1, k.1], fun i v hv => ?_⟩
  by_cases hi : i < vs.length
  · rw [List.getElem?_append_left hi] at hv
    rw [List.getElem?_append_left (by rw [← h.1]; exact hi)]
    exact h.2 i v hv
  · rw [List.getElem?_append_right (by omega)] at hv
    rw [List.getElem?_append_right (by rw [← h.1]; omega), ← h.1]
    exact k.2 _ v hv
theorem Vals.cons {α : Type} {f : α → Tok → Value} {ws : List Value} {bs : List α} (a : α) (t : Tok) (k : Vals f ws bs) : Vals f (f a t :: ws) (a :: bs) := by
  refine ⟨by simp [k.1], fun i v hv => ?_⟩
  cases i with
  | zero => obtain rfl := Option.some.inj hv; exact ⟨a, t, rfl, rfl⟩
  | succ i => exact k.2 i v hv
theorem Vals.nil {α : Type} {f : α → Tok → Value} : Vals f [] [] := ⟨rfl, fun i v h => by simp at h⟩
def intV (d : Nat) (t : Tok) : Value := .int (d : Int) t
def strV (l : List Nat) (t : Tok) : Value := .str (mk l) t
def drawOf (x : Int) : Nat := (x.fmod 84).toNat
theorem drawOf_eq (x : Int) : x.fmod 84 = (drawOf x : Int) := (Int.toNat_of_nonneg (Int.fmod_nonneg_of_pos x (by decide))).symm
theorem drawOf_lt (x : Int) : drawOf x < 84 := by
  have := Int.fmod_lt_of_pos x (show (0 : Int) < 84 by decide)
  rw [drawOf_eq] at this; omega
def drawsOf (xs : List Int) : List Nat := [18, 30] ++ (xs.take 8).map drawOf
theorem draws_vals {xs : List Int} {ys : List Value} (hl : ys.length = (xs.take 8).length) (h : ∀ (i : Nat) (y : Value), ys[i]? = some y → ∃ (x : Int) (t : Tok), (xs.take 8)[i]? = some x ∧ y = .int (Int.fmod x 84) t) : Vals intV ys ((xs.take 8).map drawOf) := by
  refine ⟨by rw [hl, List.length_map], fun i v hv => ?_⟩
  obtain ⟨x, t, hx, rfl⟩ := h i v hv
  exact ⟨drawOf x, t, by rw [List.getElem?_map, hx]; rfl, by rw [drawOf_eq]; rfl⟩
theorem draws_all {xs : List Int} {ys : List Value} {t1 t2 : Tok} (h : Vals intV ys ((xs.take 8).map drawOf)) : Vals intV ([.int 18 t1, .int 30 t2] ++ ys) (drawsOf xs) :=
  Vals.append (.cons 18 t1 (.cons 30 t2 .nil)) h
theorem news_drop3 {h₀ h : Heap} {L : Addr} {a b c d : Addr × Obj} {tl : List (Addr × Obj)} (N : News h₀ L h (a :: b :: c :: d :: tl)) : News h₀ L h (a :: tl) := fun p hp => by
  rcases List.mem_cons.mp hp with rfl | hp
  · exact N _ (List.mem_cons_self ..)
  · exact N _ (List.mem_cons_of_mem _ (List.mem_cons_of_mem _ (List.mem_cons_of_mem _ (List.mem_cons_of_mem _ hp))))
theorem news_list {h₀ h : Heap} {L d : Addr} {o : Obj} {vs : List Value} {ep : Nat} {news : List (Addr × Obj)} (N : News h₀ L h news) (hm : (d, o) ∈ news) (hc : o.cls = .type "list") (hdat : o.data = .seq vs.toArray ep) : h.IsList d vs.toArray :=
  ⟨o, (N _ hm).1, hc, ep, hdat⟩
theorem head_vals {α : Type} {f : α → Tok → Value} {as : List α} {h₀ h : Heap} {L d : Addr} {vs : List Value} {ep : Nat} {tl : List (Addr × Obj)} (N : News h₀ L h ((d, { cls := .type "list", data := .seq vs.toArray ep }) :: tl)) (V : Vals f vs as) :
    ∃ vs' ep', Vals f vs' as ∧ News h₀ L h ((d, W.listOf vs'.toArray ep') :: tl) := ⟨vs, ep, V, N⟩
theorem item_sets {w : World} {A : Around} {E : Value → Shared → Prop} {s : Shared} {h₀ : Heap} {L a : Addr} {news : List (Addr × Obj)} {vs : List Value} {ep : Nat} {as : List Nat} {n : Int} {i c : Nat} {u : Tok} {value slice : PySem.Expr} {Q : Value → Shared → Prop}
    (N : News h₀ L s.heap news) (hm : (a, W.listOf vs.toArray ep) ∈ news) (V : Vals intV vs as) (hi : n = i) (hc : as[i]? = some c) (hs : as.length ≤ 1000000) (h : ∀ t, Q (.int (c : Int) t) s)
    (hs' : subscripted slice false (.ref a) (.int n u) = operate [.ref a, .int n u] (getItem (.ref a) (.int n u)) := by with_unfolding_all rfl) (hg : ∀ r, letTemporaryGo value (.ref a) r = pure () := by intro _; with_unfolding_all rfl) :
    wpAny (model PySem.Challenge.rw_il0084_01.row.prog w) A (subscriptTail value slice (.ref a) (.int n u)) Q E s := by
  subst hi
  have hl := news_list N hm rfl rfl
  obtain ⟨t, ht⟩ := V.get hc
  have hi := (List.getElem?_eq_some_iff.mp hc).1
  exact item_listL hl (by omega) (by omega) ht (h t) hs' hg
theorem item_strs {w : World} {A : Around} {E : Value → Shared → Prop} {s : Shared} {h₀ : Heap} {L a : Addr} {news : List (Addr × Obj)} {vs : List Value} {ep : Nat} {as : List (List Nat)} {n : Int} {i : Nat} {c : List Nat} {u : Tok} {value slice : PySem.Expr} {Q : Value → Shared → Prop}
    (N : News h₀ L s.heap news) (hm : (a, W.listOf vs.toArray ep) ∈ news) (V : Vals strV vs as) (hi : n = i) (hc : as[i]? = some c) (hs : as.length ≤ 1000000) (h : ∀ t, Q (.str (mk c) t) s)
    (hs' : subscripted slice false (.ref a) (.int n u) = operate [.ref a, .int n u] (getItem (.ref a) (.int n u)) := by with_unfolding_all rfl) (hg : ∀ r, letTemporaryGo value (.ref a) r = pure () := by intro _; with_unfolding_all rfl) :
    wpAny (model PySem.Challenge.rw_il0084_01.row.prog w) A (subscriptTail value slice (.ref a) (.int n u)) Q E s := by
  subst hi
  have hl := news_list N hm rfl rfl
  obtain ⟨t, ht⟩ := V.get hc
  have hi := (List.getElem?_eq_some_iff.mp hc).1
  exact item_listL hl (by omega) (by omega) ht (h t) hs' hg
theorem len_of {α : Type} {f : α → Tok → Value} {as : List α} {w : World} {A : Around} {E : Value → Shared → Prop} {s : Shared} {h₀ : Heap} {L a : Addr} {news : List (Addr × Obj)} {vs : List Value} {ep : Nat} {Q : Value → Shared → Prop}
    (N : News h₀ L s.heap news) (hm : (a, W.listOf vs.toArray ep) ∈ news) (V : Vals f vs as) (hs : as.length ≤ 1000000) (h : ∀ t k, Q (.int (as.length : Nat) t) { s with toks := k }) :
    wpAny (model PySem.Challenge.rw_il0084_01.row.prog w) A (call (.builtin "len") [.ref a]) Q E s := by
  have hl := news_list N hm rfl rfl
  refine call_len_list hl (by rw [List.size_toArray, V.1]; omega) ?_
  rw [List.size_toArray, V.1]
  exact h _ _
def sortsTab : List Nat := [16384, 40960, 16384, 4096, 16384, 24576, 32768]
def setsTab : List Nat := [0, 256, 128, 64, 2112, 2048, 513, 512, 1032, 416, 519, 3657]
def kindTab : List Nat := [100, 108, 100, 112, 100, 98, 45]
def signTab : List Nat := [60, 62, 34, 38, 10, 9, 13, 97]
theorem sets_vals {t0 t1 t2 t3 t4 t5 t6 t7 t8 t9 ta tb : Tok} : Vals intV [Value.int 0 t0, .int 256 t1, .int 128 t2, .int 64 t3, .int 2112 t4, .int 2048 t5, .int 513 t6, .int 512 t7, .int 1032 t8, .int 416 t9, .int 519 ta, .int 3657 tb] setsTab :=
  .cons 0 _ (.cons 256 _ (.cons 128 _ (.cons 64 _ (.cons 2112 _ (.cons 2048 _ (.cons 513 _ (.cons 512 _ (.cons 1032 _ (.cons 416 _ (.cons 519 _ (.cons 3657 _ .nil)))))))))))
theorem sorts_vals {t0 t1 t2 t3 t4 t5 t6 : Tok} : Vals intV [Value.int 16384 t0, .int 40960 t1, .int 16384 t2, .int 4096 t3, .int 16384 t4, .int 24576 t5, .int 32768 t6] sortsTab :=
  .cons 16384 _ (.cons 40960 _ (.cons 16384 _ (.cons 4096 _ (.cons 16384 _ (.cons 24576 _ (.cons 32768 _ .nil))))))
def kindC (d : Nat) : Nat := kindTab.getD (d % 7) 0
def sortN (d : Nat) : Nat := sortsTab.getD (d % 7) 0
def rightN (d : Nat) : Nat := setsTab.getD (d / 7) 0
def nameL (k d : Nat) : List Nat := [signTab.getD ((d + k) % 8) 0, signTab.getD (d / 5 % 8) 0]
theorem tab_some {l : List Nat} {n : Nat} (h : n < l.length) : l[n]? = some (l.getD n 0) := by
  rw [List.getD, List.getElem?_eq_getElem h]; rfl
theorem item_of {w : World} {A : Around} {E : Value → Shared → Prop} {s : Shared} {y : PySem.Str} {l : List Nat} {n : Int} {c i : Nat} {t u : Tok} {value slice : PySem.Expr} {Q : Value → Shared → Prop} (hy : y = mk l) (hi : n = i) (hc : l[i]? = some c) (hs : i ≤ 1000000) (h : ∀ t' k, Q (.str (mk [c]) t') { s with toks := k })
    (hs' : subscripted slice false (.str (mk l) t) (.int n u) = operate [.str (mk l) t, .int n u] (getItem (.str (mk l) t) (.int n u)) := by with_unfolding_all rfl) :
    wpAny (model PySem.Challenge.rw_il0084_01.row.prog w) A (subscriptTail value slice (.str y t) (.int n u)) Q E s := by
  subst hy
  exact item_at hi hc hs h hs'
theorem add_nat {w : World} {A : Around} {E : Value → Shared → Prop} {s : Shared} {a b : Nat} {y : Int} {t u : Tok} {Q : Value → Shared → Prop} (hy : y = b) (h : ∀ t k, Q (.int ((a + b : Nat) : Int) t) { s with toks := k }) :
    wpAny (model PySem.Challenge.rw_il0084_01.row.prog w) A (binaryOp .Add (.int (a : Int) t) (.int y u)) Q E s := by
  subst hy
  refine add_int ?_
  rw [← Int.natCast_add]; exact h _ _
/-- of a list built in a block -/
theorem map_vals {α β : Type} {f : β → Tok → Value} {as : List α} (F : Nat → α → β) {ys : List Value} {n : Nat} (hn : n = as.length) (hl : ys.length = n) (h : ∀ (i : Nat) (y : Value), ys[i]? = some y → ∃ a t, as[i]? = some a ∧ y = f (F i a) t) : Vals f ys (as.mapIdx F) := by
  refine ⟨by rw [hl, hn, List.length_mapIdx], fun i v hv => ?_⟩
  obtain ⟨a, t, ha, rfl⟩ := h i v hv
  exact ⟨F i a, t, by rw [List.getElem?_mapIdx, ha]; rfl, rfl⟩
end Mine
end

section
open PySem PySem.W PyProof.Rows PySem.Calls
set_option Elab.async false
set_option maxRecDepth 100000
set_option maxHeartbeats 0
namespace Mine
def isLet (c : Nat) : Bool := c == 114 || c == 119 || c == 120 || c == 115 || c == 116
theorem isLet_cases {c : Nat} (h : isLet c = true) : c = 114 ∨ c = 119 ∨ c = 120 ∨ c = 115 ∨ c = 116 := by
  simp only [isLet, Bool.or_eq_true, beq_iff_eq] at h; omega
theorem runL_other {c : Nat} (h : isLet c = false) (l : List Nat) : runL c l = l := by
  simp only [isLet, Bool.or_eq_false_iff, beq_eq_false_iff_ne] at h
  obtain ⟨⟨⟨⟨h1, h2⟩, h3⟩, h4⟩, h5⟩ := h
  simp [runL, h1, h2, h3, h4, h5]
theorem runL_each (c : Nat) (l : List Nat) : runL c l = l.flatMap fun g => runL c [g] := by
  unfold runL
  repeat' split
  all_goals first | exact escL_each _ _ | simp
theorem runL_append (c : Nat) (a b : List Nat) : runL c (a ++ b) = runL c a ++ runL c b := by
  rw [runL_each c (a ++ b), List.flatMap_append, ← runL_each, ← runL_each]
def safe (x : Nat) : Prop := x ≠ 38 ∧ x ≠ 60 ∧ x ≠ 62 ∧ x ≠ 34 ∧ x ≠ 10 ∧ x ≠ 9 ∧ x ≠ 13
theorem esc_safe {ps : List (Nat × List Nat)} {x : Nat} (h : safe x) (hp : ∀ p ∈ ps, p.1 = 38 ∨ p.1 = 60 ∨ p.1 = 62 ∨ p.1 = 34 ∨ p.1 = 10 ∨ p.1 = 9 ∨ p.1 = 13) : escL ps [x] = [x] := by
  refine escL_free fun p hm he => ?_
  have e : p.1 = x := List.mem_singleton.mp he
  have := hp p hm
  obtain ⟨h1, h2, h3, h4, h5, h6, h7⟩ := h
  omega
theorem run_safe {c x : Nat} (h : safe x) : runL c [x] = [x] := by
  unfold runL
  repeat' split
  · exact esc_safe h (by decide)
  · exact esc_safe h (by decide)
  · exact esc_safe h (by decide)
  · exact esc_safe h (by decide)
  · exact esc_safe h (by decide)
  · rfl
theorem run_safes (c : Nat) : ∀ {l : List Nat}, (∀ x ∈ l, safe x) → runL c l = l
  | [], _ => by rw [runL_each]; rfl
  | x :: r, h => by
    have := run_safes c (l := r) fun y hy => h y (List.mem_cons_of_mem _ hy)
    rw [show x :: r = [x] ++ r from rfl, runL_append, run_safe (h x (List.mem_cons_self ..)), this]
theorem run_one {c : Nat} (hc : isLet c = true) (g : Nat) : runL c [g] = if refL c g = [] then [g] else 38 :: refL c g := by
  by_cases hs : safe g
  · rw [run_safe hs, if_pos]
    obtain ⟨h1, h2, h3, h4, h5, h6, h7⟩ := hs
    simp [refL, h1, h2, h3, h4, h5, h6, h7]
  · have hg : g = 38 ∨ g = 60 ∨ g = 62 ∨ g = 34 ∨ g = 10 ∨ g = 9 ∨ g = 13 := by
      unfold safe at hs; omega
    rcases isLet_cases hc with rfl | rfl | rfl | rfl | rfl <;> rcases hg with rfl | rfl | rfl | rfl | rfl | rfl | rfl <;> decide +kernel
theorem ref_safe (c g : Nat) : ∀ x ∈ refL c g, safe x ∧ x ≠ 46 ∧ x ≠ 47 := by
  unfold refL
  repeat' split
  all_goals first | (unfold safe; decide) | (intro x hx; simp at hx)
theorem amps_safe (n : Nat) : ∀ x ∈ (List.replicate n [97, 109, 112, 59]).flatten, safe x ∧ x ≠ 46 ∧ x ≠ 47 := by
  intro x hx
  obtain ⟨l, hl, hx⟩ := List.mem_flatten.mp hx
  rw [(List.mem_replicate.mp hl).2] at hx
  simp only [List.mem_cons, List.not_mem_nil, or_false] at hx
  unfold safe
  omega
theorem ref_amp (c : Nat) : refL c 38 = [97, 109, 112, 59] := by simp [refL]
theorem told_run {c : Nat} (hc : isLet c = true) (g : Nat) : ∀ ls : List Nat, runL c (toldL g ls) = toldL g (ls ++ [c])
  | [] => by
    show runL c [g] = toldL g [c]
    rw [run_one hc]
    show _ = if refL c g = [] then toldL g [] else [38] ++ (List.replicate ([] : List Nat).length [97, 109, 112, 59]).flatten ++ refL c g
    rfl
  | c' :: r => by
    have ih := told_run hc g r
    show runL c (if refL c' g = [] then toldL g r else [38] ++ (List.replicate r.length [97, 109, 112, 59]).flatten ++ refL c' g) = if refL c' g = [] then toldL g (r ++ [c]) else [38] ++ (List.replicate (r ++ [c]).length [97, 109, 112, 59]).flatten ++ refL c' g
    by_cases hr : refL c' g = []
    · rw [if_pos hr, if_pos hr]; exact ih
    · rw [if_neg hr, if_neg hr, runL_append, runL_append, run_one hc, ref_amp, run_safes c fun x hx => (amps_safe _ x hx).1, run_safes c fun x hx => (ref_safe _ _ x hx).1]
      rw [List.length_append, List.length_singleton, List.replicate_succ, List.flatten_cons]
      simp
theorem told_chars {g : Nat} (hg : g ≠ 46 ∧ g ≠ 47) : ∀ (ls : List Nat), ∀ x ∈ toldL g ls, x ≠ 46 ∧ x ≠ 47
  | [], x, hx => by rw [List.mem_singleton.mp hx]; exact hg
  | c :: r, x, hx => by
    unfold toldL at hx
    split at hx
    · exact told_chars hg r x hx
    · rcases List.mem_append.mp hx with hx | hx
      · rcases List.mem_append.mp hx with hx | hx
        · rw [List.mem_singleton.mp hx]; decide
        · exact (amps_safe _ x hx).2
      · exact (ref_safe _ _ x hx).2
theorem told_len (g : Nat) : ∀ ls : List Nat, 1 ≤ (toldL g ls).length ∧ (toldL g ls).length ≤ 4 * ls.length + 6
  | [] => by simp [toldL]
  | c :: r => by
    have ih := told_len g r
    have hr := refL_len c g
    unfold toldL
    split
    · rw [List.length_cons]; omega
    · simp only [List.length_append, List.length_cons, List.length_nil, List.length_flatten, List.map_replicate, List.sum_replicate_nat]; omega
def textOf (p : List Nat × List Nat) : List Nat := p.1.flatMap fun g => toldL g p.2
def addL (c : Nat) (p : List Nat × List Nat) : List Nat × List Nat := if isLet c = true then (p.1, p.2 ++ [c]) else p
theorem run_text (c : Nat) (p : List Nat × List Nat) : runL c (textOf p) = textOf (addL c p) := by
  unfold addL
  by_cases hc : isLet c = true
  · rw [if_pos hc, runL_each]
    unfold textOf
    rw [List.flatMap_assoc]
    congr 1
    funext g
    rw [← runL_each, told_run hc]
  · rw [if_neg hc, runL_other (by simpa using hc)]
theorem run_join (c : Nat) : ∀ ps : List (List Nat), runL c (joinL ps) = joinL (ps.map (runL c))
  | [] => run_safes c (l := []) (by simp)
  | [x] => rfl
  | x :: y :: r => by
    have ih := run_join c (y :: r)
    show runL c (x ++ 47 :: joinL (y :: r)) = runL c x ++ 47 :: joinL ((y :: r).map (runL c))
    rw [← ih, runL_append, show 47 :: joinL (y :: r) = [47] ++ joinL (y :: r) from rfl, runL_append, run_safe (by unfold safe; decide)]
    rfl
theorem run_path (c : Nat) (ps : List (List Nat × List Nat)) : runL c (47 :: joinL (ps.map textOf)) = 47 :: joinL ((ps.map (addL c)).map textOf) := by
  rw [show ∀ l : List Nat, 47 :: l = [47] ++ l from fun _ => rfl, runL_append, run_safe (by unfold safe; decide), run_join, List.map_map, List.map_map]
  have : (runL c ∘ textOf) = (textOf ∘ addL c) := funext fun p => run_text c p
  rw [this]; rfl
theorem text_chars {p : List Nat × List Nat} (h : ∀ g ∈ p.1, g ≠ 46 ∧ g ≠ 47) : ∀ x ∈ textOf p, x ≠ 46 ∧ x ≠ 47 := by
  intro x hx
  obtain ⟨g, hg, hx⟩ := List.mem_flatMap.mp hx
  exact told_chars (h g hg) _ x hx
theorem text_len {a b : Nat} {ls : List Nat} : 1 ≤ (textOf ([a, b], ls)).length ∧ (textOf ([a, b], ls)).length ≤ 8 * ls.length + 12 := by
  have h1 := told_len a ls
  have h2 := told_len b ls
  unfold textOf
  simp only [List.flatMap_cons, List.flatMap_nil, List.append_nil, List.length_append]
  omega
end Mine
end

section
open PySem PySem.W PyProof.Rows PySem.Calls
set_option Elab.async false
set_option maxRecDepth 100000
set_option maxHeartbeats 0
namespace Mine
def modeN (d : Nat) : Nat := sortN d + rightN d
theorem modes_all : (List.range 84).all (fun d => decide (modeN d < 65536) && decide ((fmL (modeN d : Int)).length = 10) && decide ((fmL (modeN d : Int)).head? = some (kindC d)) && decide (((fmL (modeN d : Int)).tail.filter isLet) = lettersL (rightN d))
    && decide (rightN d ≤ 4096) && (fmL (modeN d : Int)).all (fun c => decide (c < 128)) && signTab.all (fun g => decide (g ≠ 46 ∧ g ≠ 47))) = true := by decide +kernel
theorem modes {d : Nat} (h : d < 84) : modeN d < 65536 ∧ (fmL (modeN d : Int)).length = 10 ∧ (fmL (modeN d : Int)).head? = some (kindC d) ∧ (fmL (modeN d : Int)).tail.filter isLet = lettersL (rightN d) ∧ rightN d ≤ 4096 := by
  have := List.all_eq_true.mp modes_all d (List.mem_range.mpr h)
  simp only [Bool.and_eq_true, decide_eq_true_eq] at this
  obtain ⟨⟨⟨⟨⟨⟨h1, h2⟩, h3⟩, h4⟩, h5⟩, _⟩, _⟩ := this
  exact ⟨h1, h2, h3, h4, h5⟩
theorem sign_ok (n : Nat) : signTab.getD (n % 8) 0 ≠ 46 ∧ signTab.getD (n % 8) 0 ≠ 47 := by
  have h : n % 8 < 8 := Nat.mod_lt _ (by decide)
  generalize n % 8 = k at h
  match k, h with
  | 0, _ | 1, _ | 2, _ | 3, _ | 4, _ | 5, _ | 6, _ | 7, _ => decide
  | _ + 8, h => omega
theorem name_ok (k d : Nat) : ∀ g ∈ nameL k d, g ≠ 46 ∧ g ≠ 47 := by
  intro g hg
  unfold nameL at hg
  simp only [List.mem_cons, List.not_mem_nil, or_false] at hg
  rcases hg with rfl | rfl
  · exact sign_ok _
  · exact sign_ok _
/-- the stack of places -/
def lastOnly (S : List Nat) : List Nat := S.drop (S.length - 1)
def stepS (c i : Nat) (S : List Nat) : List Nat := if c = 100 then S ++ [i] else if c = 108 then S.dropLast else if c = 112 then S.dropLast else if c = 98 then lastOnly S else S
def stk (ds : List Nat) : Nat → List Nat
  | 0 => []
  | i + 1 => stepS (kindC (ds.getD i 0)) i (stk ds i)
def lettersFrom (ds : List Nat) (k i : Nat) : List Nat := ((ds.take i).drop k).flatMap fun d => lettersL (rightN d)
def part (ds : List Nat) (i k : Nat) : List Nat × List Nat := (nameL k (ds.getD k 0), lettersFrom ds k i)
def parts (ds : List Nat) (i : Nat) : List (List Nat × List Nat) := (stk ds i).map (part ds i)
/-- after the step's own move, before its letters -/
def moved (ds : List Nat) (i : Nat) : List (List Nat × List Nat) := (stk ds (i + 1)).map (part ds i)
theorem lettersFrom_self (ds : List Nat) (i : Nat) : lettersFrom ds i i = [] := by
  unfold lettersFrom
  rw [List.drop_eq_nil_of_le (by simp; omega)]; rfl
theorem lettersFrom_next (ds : List Nat) (k i : Nat) (hk : k ≤ i) (hi : i < ds.length) : lettersFrom ds k (i + 1) = lettersFrom ds k i ++ lettersL (rightN (ds.getD i 0)) := by
  unfold lettersFrom
  have e : ds.take (i + 1) = ds.take i ++ [ds.getD i 0] := by
    rw [List.take_add_one, List.getElem?_eq_getElem hi, List.getD, List.getElem?_eq_getElem hi]; rfl
  rw [e, List.drop_append_of_le_length (by rw [List.length_take]; omega), List.flatMap_append]
  simp
theorem lettersFrom_len (ds : List Nat) (k i : Nat) : (lettersFrom ds k i).length ≤ 9 * i := by
  unfold lettersFrom
  have h : ∀ l : List Nat, (l.flatMap fun d => lettersL (rightN d)).length ≤ 9 * l.length := by
    intro l
    induction l with
    | nil => simp
    | cons a r ih =>
      have := lettersL_len (rightN a)
      rw [List.flatMap_cons, List.length_append, List.length_cons]; omega
  have h1 := h ((ds.take i).drop k)
  have h2 : ((ds.take i).drop k).length ≤ i := by simp; omega
  omega
theorem stk_lt (ds : List Nat) : ∀ (i k : Nat), k ∈ stk ds i → k < i
  | 0, k, h => by simp [stk] at h
  | i + 1, k, h => by
    unfold stk stepS at h
    have ih := stk_lt ds i k
    repeat' split at h
    · rcases List.mem_append.mp h with h | h
      · have := ih h; omega
      · rw [List.mem_singleton.mp h]; omega
    · have := ih ((List.dropLast_sublist _).subset h); omega
    · have := ih ((List.dropLast_sublist _).subset h); omega
    · have := ih (List.mem_of_mem_drop h); omega
    · have := ih h; omega
theorem stk_len (ds : List Nat) : ∀ i : Nat, (stk ds i).length ≤ i
  | 0 => by simp [stk]
  | i + 1 => by
    have ih := stk_len ds i
    unfold stk stepS
    repeat' split
    · simp; omega
    · simp; omega
    · simp; omega
    · unfold lastOnly; simp; omega
    · omega
/-- a fold of letters over the parts -/
theorem fold_addL (ps : List (List Nat × List Nat)) : ∀ cs : List Nat, cs.foldl (fun ps c => ps.map (addL c)) ps = ps.map fun p => (p.1, p.2 ++ cs.filter isLet) := by
  intro cs
  induction cs generalizing ps with
  | nil => simp
  | cons c r ih =>
    rw [List.foldl_cons, ih, List.map_map]
    congr 1
    funext p
    show ((addL c p).1, (addL c p).2 ++ r.filter isLet) = _
    unfold addL
    by_cases hc : isLet c = true
    · rw [if_pos hc, List.filter_cons_of_pos hc]; simp
    · rw [if_neg hc, List.filter_cons_of_neg hc]
theorem moved_next (ds : List Nat) (i : Nat) (hi : i < ds.length) : (moved ds i).map (fun p => (p.1, p.2 ++ lettersL (rightN (ds.getD i 0)))) = parts ds (i + 1) := by
  unfold moved parts
  rw [List.map_map]
  refine List.map_congr_left fun k hk => ?_
  have := stk_lt ds _ _ hk
  show ((part ds i k).1, (part ds i k).2 ++ _) = part ds (i + 1) k
  unfold part
  rw [lettersFrom_next ds k i (by omega) hi]
theorem moved_d (ds : List Nat) (i : Nat) (h : kindC (ds.getD i 0) = 100) : moved ds i = parts ds i ++ [(nameL i (ds.getD i 0), [])] := by
  unfold moved parts
  rw [stk, stepS, if_pos h, List.map_append]
  simp [part, lettersFrom_self]
theorem moved_l (ds : List Nat) (i : Nat) (h : kindC (ds.getD i 0) = 108 ∨ kindC (ds.getD i 0) = 112) : moved ds i = (parts ds i).dropLast := by
  unfold moved parts
  rcases h with h | h
  · rw [stk, stepS, if_neg (by omega), if_pos h, List.map_dropLast]
  · rw [stk, stepS, if_neg (by omega), if_neg (by omega), if_pos h, List.map_dropLast]
theorem moved_b (ds : List Nat) (i : Nat) (h : kindC (ds.getD i 0) = 98) : moved ds i = (parts ds i).drop ((parts ds i).length - 1) := by
  unfold moved parts
  rw [stk, stepS, if_neg (by omega), if_neg (by omega), if_neg (by omega), if_pos h, lastOnly, List.length_map, List.map_drop]
theorem moved_n (ds : List Nat) (i : Nat) (h1 : kindC (ds.getD i 0) ≠ 100) (h2 : kindC (ds.getD i 0) ≠ 108) (h3 : kindC (ds.getD i 0) ≠ 112) (h4 : kindC (ds.getD i 0) ≠ 98) : moved ds i = parts ds i := by
  unfold moved parts
  rw [stk, stepS, if_neg h1, if_neg h2, if_neg h3, if_neg h4]
/-- the scan back: the view of a stack -/
def view (S : List Nat) (still : Nat) (alone : Bool) : List Nat := let T := S.take (S.length - still); if alone then lastOnly T else T
theorem take_less (S : List Nat) (n : Nat) : S.dropLast.take (S.dropLast.length - n) = S.take (S.length - (n + 1)) := by
  rw [List.dropLast_eq_take, List.take_take, List.length_take]
  congr 1
  omega
theorem view_l (S : List Nat) (n : Nat) (al : Bool) : view S.dropLast n al = view S (n + 1) al := by
  unfold view
  rw [take_less]
theorem view_d_pos (S : List Nat) (k n : Nat) (al : Bool) (h : 0 < n) : view (S ++ [k]) n al = view S (n - 1) al := by
  unfold view
  have : (S ++ [k]).take ((S ++ [k]).length - n) = S.take (S.length - (n - 1)) := by
    rw [List.length_append, List.length_singleton, List.take_append_of_le_length (by omega)]
    congr 1; omega
  rw [this]
theorem view_d_zero (S : List Nat) (k : Nat) : view (S ++ [k]) 0 false = view S 0 false ++ [k] := by
  unfold view
  simp only [Nat.sub_zero, List.take_length]
  rfl
theorem view_d_alone (S : List Nat) (k : Nat) : view (S ++ [k]) 0 true = [k] := by
  unfold view lastOnly
  simp only [Nat.sub_zero, List.take_length, if_true]
  simp
theorem lastOnly_len (S : List Nat) : (lastOnly S).length ≤ 1 := by
  unfold lastOnly; simp; omega
theorem view_b_pos (S : List Nat) (n : Nat) (al : Bool) (h : 0 < n) : view (lastOnly S) n al = [] := by
  have h1 := lastOnly_len S
  unfold view
  have : (lastOnly S).take ((lastOnly S).length - n) = [] := by
    rw [show (lastOnly S).length - n = 0 by omega]; rfl
  rw [this]
  simp [lastOnly]
theorem lastOnly_twice (S : List Nat) : lastOnly (lastOnly S) = lastOnly S := by
  unfold lastOnly
  rw [List.drop_drop]
  congr 1
  simp; omega
theorem view_b_zero (S : List Nat) (al : Bool) : view (lastOnly S) 0 al = view S 0 true := by
  unfold view
  simp only [Nat.sub_zero, List.take_length, if_true]
  split
  · exact lastOnly_twice S
  · rfl
theorem view_nil (n : Nat) (al : Bool) : view [] n al = [] := by
  unfold view; simp [lastOnly]
/-- what holds of the scan after the places from i on -/
def Scan (ds : List Nat) (i still : Nat) (alone : Bool) (there : List Nat) : Prop := stk ds ds.length = view (stk ds i) still alone ++ there
theorem Scan.start (ds : List Nat) : Scan ds ds.length 0 false [] := by
  unfold Scan view; simp
theorem Scan.fin {ds : List Nat} {still : Nat} {alone : Bool} {there : List Nat} (h : Scan ds 0 still alone there) : there = stk ds ds.length := by
  unfold Scan at h
  rw [h, stk, view_nil]; rfl
theorem Scan.pop {ds : List Nat} {i still : Nat} {alone : Bool} {there : List Nat} (h : Scan ds (i + 1) still alone there) (hk : kindC (ds.getD i 0) = 108 ∨ kindC (ds.getD i 0) = 112) : Scan ds i (still + 1) alone there := by
  unfold Scan at h ⊢
  rw [h, stk, stepS]
  rcases hk with hk | hk
  · rw [if_neg (by omega), if_pos hk, view_l]
  · rw [if_neg (by omega), if_neg (by omega), if_pos hk, view_l]
theorem Scan.b_stop {ds : List Nat} {i still : Nat} {alone : Bool} {there : List Nat} (h : Scan ds (i + 1) still alone there) (hk : kindC (ds.getD i 0) = 98) (hs : 0 < still) : there = stk ds ds.length := by
  unfold Scan at h
  rw [h, stk, stepS, if_neg (by omega), if_neg (by omega), if_neg (by omega), if_pos hk, view_b_pos _ _ _ hs]; rfl
theorem Scan.b_alone {ds : List Nat} {i : Nat} {alone : Bool} {there : List Nat} (h : Scan ds (i + 1) 0 alone there) (hk : kindC (ds.getD i 0) = 98) : Scan ds i 0 true there := by
  unfold Scan at h ⊢
  rw [h, stk, stepS, if_neg (by omega), if_neg (by omega), if_neg (by omega), if_pos hk, view_b_zero]
theorem Scan.d_pos {ds : List Nat} {i still : Nat} {alone : Bool} {there : List Nat} (h : Scan ds (i + 1) still alone there) (hk : kindC (ds.getD i 0) = 100) (hs : 0 < still) : Scan ds i (still - 1) alone there := by
  unfold Scan at h ⊢
  rw [h, stk, stepS, if_pos hk, view_d_pos _ _ _ _ hs]
theorem Scan.d_zero {ds : List Nat} {i : Nat} {there : List Nat} (h : Scan ds (i + 1) 0 false there) (hk : kindC (ds.getD i 0) = 100) : Scan ds i 0 false ([i] ++ there) := by
  unfold Scan at h ⊢
  rw [h, stk, stepS, if_pos hk, view_d_zero, List.append_assoc]
theorem Scan.d_alone {ds : List Nat} {i : Nat} {there : List Nat} (h : Scan ds (i + 1) 0 true there) (hk : kindC (ds.getD i 0) = 100) : [i] ++ there = stk ds ds.length := by
  unfold Scan at h
  rw [h, stk, stepS, if_pos hk, view_d_alone]
theorem Scan.other {ds : List Nat} {i still : Nat} {alone : Bool} {there : List Nat} (h : Scan ds (i + 1) still alone there) (h1 : kindC (ds.getD i 0) ≠ 100) (h2 : kindC (ds.getD i 0) ≠ 108) (h3 : kindC (ds.getD i 0) ≠ 112) (h4 : kindC (ds.getD i 0) ≠ 98) : Scan ds i still alone there := by
  unfold Scan at h ⊢
  rw [h, stk, stepS, if_neg h1, if_neg h2, if_neg h3, if_neg h4]
end Mine
end

section
open PySem PySem.W PyProof.Rows PySem.Calls
set_option Elab.async false
set_option maxRecDepth 100000
set_option maxHeartbeats 0
namespace Mine
def Gd (qs : List (List Nat)) : Prop := ∀ p ∈ qs, p ≠ [] ∧ 46 ∉ p ∧ 47 ∉ p
theorem joinL_snoc (nm : List Nat) : ∀ qs : List (List Nat), qs ≠ [] → joinL (qs ++ [nm]) = joinL qs ++ 47 :: nm
  | [], h => absurd rfl h
  | [x], _ => rfl
  | x :: y :: r, _ => by
    have ih := joinL_snoc nm (y :: r) (by simp)
    show x ++ 47 :: joinL ((y :: r) ++ [nm]) = (x ++ 47 :: joinL (y :: r)) ++ 47 :: nm
    rw [ih]; simp
theorem joinL_last : ∀ qs : List (List Nat), qs ≠ [] → Gd qs → ∃ c, (joinL qs).getLast? = some c ∧ c ≠ 47
  | [], h, _ => absurd rfl h
  | [x], _, g => by
    obtain ⟨h1, _, h3⟩ := g x (by simp)
    show ∃ c, x.getLast? = some c ∧ c ≠ 47
    refine ⟨x.getLast h1, List.getLast?_eq_some_getLast h1, fun e => h3 (e ▸ List.getLast_mem h1)⟩
  | x :: y :: r, _, g => by
    obtain ⟨c, hc, hn⟩ := joinL_last (y :: r) (by simp) fun p hp => g p (List.mem_cons_of_mem _ hp)
    refine ⟨c, ?_, hn⟩
    show (x ++ 47 :: joinL (y :: r)).getLast? = some c
    rw [List.getLast?_append, List.getLast?_cons, hc]; rfl
theorem path_last {qs : List (List Nat)} (g : Gd qs) (h : qs ≠ []) : (47 :: joinL qs).getLast? ≠ some 47 := by
  obtain ⟨c, hc, hn⟩ := joinL_last qs h g
  rw [List.getLast?_cons, hc]
  simpa using hn
theorem join_path {qs : List (List Nat)} (g : Gd qs) (nm : List Nat) : (if (47 :: joinL qs).getLast? = some 47 then (47 :: joinL qs) ++ nm else (47 :: joinL qs) ++ [47] ++ nm) = 47 :: joinL (qs ++ [nm]) := by
  by_cases h : qs = []
  · subst h; rfl
  · rw [if_neg (path_last g h), joinL_snoc nm qs h]; simp
theorem split_path {qs : List (List Nat)} (g : Gd qs) : ∃ pre last, 47 :: joinL qs = pre ++ 47 :: last ∧ 47 ∉ last ∧ pre.getLast? ≠ some 47 ∧ (if pre = [] then [47] else pre) = 47 :: joinL qs.dropLast ∧ 47 :: last = 47 :: joinL (qs.drop (qs.length - 1)) := by
  rcases List.eq_nil_or_concat qs with rfl | ⟨ini, q, rfl⟩
  · exact ⟨[], [], rfl, by simp, by simp, rfl, rfl⟩
  · rw [List.concat_eq_append] at g ⊢
    have hq := g q (by simp)
    have gi : Gd ini := fun p hp => g p (by simp [hp])
    have hd : (ini ++ [q]).drop ((ini ++ [q]).length - 1) = [q] := by simp
    rw [hd, List.dropLast_concat]
    by_cases h : ini = []
    · subst h
      exact ⟨[], q, rfl, hq.2.2, by simp, rfl, rfl⟩
    · refine ⟨47 :: joinL ini, q, by rw [joinL_snoc q ini h]; rfl, hq.2.2, path_last gi h, by simp, rfl⟩
theorem joinL_len_le (n : Nat) : ∀ qs : List (List Nat), (∀ p ∈ qs, p.length ≤ n) → (joinL qs).length ≤ qs.length * (n + 1)
  | [], _ => by simp [joinL]
  | [x], h => by
    have := h x (by simp)
    show x.length ≤ _; simp; omega
  | x :: y :: r, h => by
    have h1 := h x (by simp)
    have ih := joinL_len_le n (y :: r) fun p hp => h p (List.mem_cons_of_mem _ hp)
    show (x ++ 47 :: joinL (y :: r)).length ≤ (x :: y :: r).length * (n + 1)
    rw [List.length_append, List.length_cons, List.length_cons (a := x), Nat.succ_mul]; omega
theorem joinL_head {qs : List (List Nat)} (g : Gd qs) : ∃ c r, joinL (qs ++ [[46, 46]]) = c :: r ∧ c ≠ 47 := by
  cases qs with
  | nil => exact ⟨46, [46], rfl, by decide⟩
  | cons x t =>
    obtain ⟨h1, _, h3⟩ := g x (by simp)
    obtain ⟨c, r, rfl⟩ := List.exists_cons_of_ne_nil h1
    have hc : c ≠ 47 := fun e => h3 (by simp [e])
    cases t with
    | nil => exact ⟨c, r ++ 47 :: joinL [[46, 46]], rfl, hc⟩
    | cons y u => exact ⟨c, r ++ 47 :: joinL ((y :: u) ++ [[46, 46]]), rfl, hc⟩
theorem gd_norm {qs : List (List Nat)} (g : Gd qs) : ∀ p ∈ qs, p ≠ [] ∧ p ≠ [46] ∧ p ≠ [46, 46] ∧ 47 ∉ p := fun p hp => by
  obtain ⟨h1, h2, h3⟩ := g p hp
  exact ⟨h1, fun e => h2 (by rw [e]; simp), fun e => h2 (by rw [e]; simp), h3⟩
/-- the path after i steps -/
def pathOf (ps : List (List Nat × List Nat)) : List Nat := 47 :: joinL (ps.map textOf)
theorem text_gd (ds : List Nat) (i k : Nat) : textOf (part ds i k) ≠ [] ∧ 46 ∉ textOf (part ds i k) ∧ 47 ∉ textOf (part ds i k) ∧ (textOf (part ds i k)).length ≤ 72 * i + 12 := by
  have h1 := text_chars (p := part ds i k) (name_ok k _)
  have h2 := lettersFrom_len ds k i
  have h3 : 1 ≤ (textOf (part ds i k)).length ∧ (textOf (part ds i k)).length ≤ 8 * (lettersFrom ds k i).length + 12 := text_len
  refine ⟨fun e => ?_, fun h => (h1 _ h).1 rfl, fun h => (h1 _ h).2 rfl, by omega⟩
  rw [e] at h3
  simp at h3
theorem parts_gd (ds : List Nat) (i : Nat) : Gd ((parts ds i).map textOf) := by
  intro p hp
  obtain ⟨q, hq, rfl⟩ := List.mem_map.mp hp
  obtain ⟨k, _, rfl⟩ := List.mem_map.mp hq
  obtain ⟨h1, h2, h3, _⟩ := text_gd ds i k
  exact ⟨h1, h2, h3⟩
theorem parts_len (ds : List Nat) (i : Nat) (hi : i ≤ 10) : (parts ds i).length ≤ 10 ∧ (pathOf (parts ds i)).length ≤ 10000 := by
  have h0 := stk_len ds i
  have h1 : (parts ds i).length ≤ i := by unfold parts; rw [List.length_map]; exact h0
  have h2 := joinL_len_le 740 ((parts ds i).map textOf) fun p hp => by
    obtain ⟨q, hq, rfl⟩ := List.mem_map.mp hp
    obtain ⟨k, _, rfl⟩ := List.mem_map.mp hq
    have := (text_gd ds i k).2.2.2
    omega
  rw [List.length_map] at h2
  unfold pathOf
  rw [List.length_cons]
  omega
theorem text_name (k d : Nat) : textOf (nameL k d, []) = nameL k d := by
  simp [textOf, toldL]
theorem path_d (ds : List Nat) (i : Nat) (h : kindC (ds.getD i 0) = 100) : (if (pathOf (parts ds i)).getLast? = some 47 then pathOf (parts ds i) ++ nameL i (ds.getD i 0) else pathOf (parts ds i) ++ [47] ++ nameL i (ds.getD i 0)) = pathOf (moved ds i) := by
  rw [moved_d ds i h]
  unfold pathOf
  rw [List.map_append, List.map_singleton, text_name]
  exact join_path (parts_gd ds i) _
theorem path_moved_l (ds : List Nat) (i : Nat) (h : kindC (ds.getD i 0) = 108 ∨ kindC (ds.getD i 0) = 112) : pathOf (moved ds i) = 47 :: joinL ((parts ds i).map textOf).dropLast := by
  rw [moved_l ds i h]
  unfold pathOf
  rw [List.map_dropLast]
theorem path_moved_b (ds : List Nat) (i : Nat) (h : kindC (ds.getD i 0) = 98) : pathOf (moved ds i) = 47 :: joinL (((parts ds i).map textOf).drop (((parts ds i).map textOf).length - 1)) := by
  rw [moved_b ds i h]
  unfold pathOf
  rw [List.map_drop, List.length_map]
theorem path_letters (ds : List Nat) (i : Nat) (cs : List Nat) : cs.foldl (fun l c => runL c l) (pathOf (moved ds i)) = pathOf ((moved ds i).map fun p => (p.1, p.2 ++ cs.filter isLet)) := by
  rw [← fold_addL]
  generalize moved ds i = ps
  induction cs generalizing ps with
  | nil => rfl
  | cons c r ih =>
    rw [List.foldl_cons, List.foldl_cons, ← ih]
    congr 1
    exact run_path c ps
theorem path_next (ds : List Nat) (i : Nat) (hi : i < ds.length) (hd : ds.getD i 0 < 84) : (fmL (modeN (ds.getD i 0) : Int)).tail.foldl (fun l c => runL c l) (pathOf (moved ds i)) = pathOf (parts ds (i + 1)) := by
  rw [path_letters, (modes hd).2.2.2.1, moved_next ds i hi]
theorem path_len_mid (ds : List Nat) (i j : Nat) (hi : i < 10) (cs : List Nat) (hcs : cs.length ≤ 9) : ((cs.take j).foldl (fun l c => runL c l) (pathOf (moved ds i))).length ≤ 10000 := by
  rw [path_letters]
  have h0 := stk_len ds (i + 1)
  have h1 : (moved ds i).length ≤ 10 := by unfold moved; rw [List.length_map]; omega
  have hf : ((cs.take j).filter isLet).length ≤ 9 := Nat.le_trans (List.length_filter_le _ _) (by simp; omega)
  have h2 := joinL_len_le 780 (((moved ds i).map fun p => (p.1, p.2 ++ (cs.take j).filter isLet)).map textOf) fun p hp => by
    rw [List.map_map] at hp
    obtain ⟨q, hq, rfl⟩ := List.mem_map.mp hp
    obtain ⟨k, _, rfl⟩ := List.mem_map.mp hq
    have h2 := lettersFrom_len ds k i
    have h3 : (textOf (nameL k (ds.getD k 0), lettersFrom ds k i ++ (cs.take j).filter isLet)).length ≤ 8 * (lettersFrom ds k i ++ (cs.take j).filter isLet).length + 12 := text_len.2
    rw [List.length_append] at h3
    show (textOf (nameL k (ds.getD k 0), lettersFrom ds k i ++ (cs.take j).filter isLet)).length ≤ 780
    omega
  rw [List.length_map, List.length_map] at h2
  unfold pathOf
  rw [List.length_cons]
  omega
/-- what is due for a place -/
theorem due_text (ds : List Nat) (k : Nat) : ((nameL k (ds.getD k 0)).map fun g => toldL g ((ds.drop k).map fun d => lettersL (rightN d)).flatten).flatten = textOf (part ds ds.length k) := by
  unfold textOf part lettersFrom
  rw [List.take_length, List.flatMap_def, List.flatMap_def]
theorem fin_path (ds : List Nat) : pathOf (parts ds ds.length) = 47 :: joinL ((stk ds ds.length).map fun k => textOf (part ds ds.length k)) := by
  unfold pathOf parts
  rw [List.map_map]; rfl
end Mine
end

section
open PySem PySem.W PyProof.Rows PySem.Calls
set_option Elab.async false
set_option maxRecDepth 100000
set_option maxHeartbeats 0
namespace Mine
section
variable {prog : Program} {w : World} {A : Around} {E : Value → Shared → Prop} {s : Shared} {h₀ : Heap} {L : Addr} {m : PySem.Str → Option Value} {env : Env}
/-- where a block's text came out -/
def MySigns (prog : Program) (w : World) (A : Around) (h₀ : Heap) (L : Addr) (m : PySem.Str → Option Value) (env : Env) (elt : PySem.Expr) (x : PySem.Str) (scope : Scope) (cl : List (PySem.Str × Addr)) (Q : Value → Shared → Prop) (xv : Value) (s₁ : Shared) : Prop :=
  ∃ l t news, xv = .str (mk l) t ∧ A.handled = none ∧ Fr h₀ L s₁.heap m ∧ News h₀ L s₁.heap news ∧ l.length ≤ sizeLine ∧
    ∀ g : Heap, LCg.CompRest prog w A h₀ L m env elt x scope cl { s₁ with heap := g } (fun _ => True) (SignAt (mk l)) (LCg.FinE h₀ L m { s₁ with heap := g } Q) (mk l).cps.size 0 [] news
theorem lc_signs {elt iter : PySem.Expr} {x : PySem.Str} {px : Pos} {scope : Scope} {cl : List (PySem.Str × Addr)} {pos : Pos} {Q : Value → Shared → Prop} (_F₀ : Fr h₀ L s.heap m)
    (hclos : closureFor scope env = pure cl) (hcell : ∀ y ∈ scope.names, y.2 ≠ .cell) (hkind : scope.kind = .function)
    (hnames : ∀ y ∈ scope.names, y.2 = .local → scope.names.lookup y.1 = some .local) (hx : scope.names.lookup x = some .local)
    (h : wpAny (model prog w) A (eval iter env) (MySigns prog w A h₀ L m env elt x scope cl Q) E s)
    (hs : ∀ x, foldedSetIterable iter env x = pure x := by intro _; rfl) :
    wpAny (model prog w) A (eval (.ListComp elt [⟨.Name x px, iter, [], 0⟩] scope pos) env) Q E s := by
  rw [eval_ListComp]
  refine wpAny_comprehension_free (use := none) rfl hs hclos hkind hnames (wpAny_mono h (fun xv s₁ h₁ => ?_) fun _ _ e => e)
  obtain ⟨l, t, news, rfl, hh, F, N, hsz, R⟩ := h₁
  have hsz' : (mk l).cps.size ≤ sizeLine := by rw [← Array.length_toList, mk_toList]; exact hsz
  have sts : ∀ (I : Addr) (c : String) i (h h' : Heap) (o : Obj) (nw : List (Addr × Obj)), h.IsStrIter I c (mk l) t i → h.get? I = some o → h'.get? I = some o → (∀ b o, h₀.get? b = some o → h'.get? b = some o) → News h₀ L h' nw → True → h'.IsStrIter I c (mk l) t i :=
    fun I c i h h' o nw st e e' _ _ _ => by obtain ⟨o', q, r⟩ := st; rw [e] at q; cases q; exact ⟨o, e', r⟩
  have up : ∀ (ob : Obj) b o, s₁.heap.get? b = some o → (s₁.heap.push ob).get? b = some o := fun _ b o e => Heap.get?_push_of_some _ e
  cases ha : (mk l).cps.all (· < 128)
  · refine wpAny_pyIter_wide ha ?_
    refine LCg.block_U (Walks.strWide hh s₁.heap.objs.size (mk l) t) hsz' (fun i h st => by obtain ⟨o, e, _⟩ := st; exact ⟨o, e⟩) (sts _ _) hcell hkind hx ⟨_, Heap.get?_push_size _ rfl, rfl, rfl⟩ (fun b hb => ?_)
      (F.keeps (up _)) (N.grown (up _)) (Nat.ne_of_lt F.ns.lt) (next_is_new F) (fun p hp => Nat.ne_of_lt (Heap.lt_size (N p hp).1)) trivial (R _) ?_
    · rw [List.mem_singleton.mp hb]
      show s₁.heap.objs.size < (s₁.heap.push _).objs.size
      rw [Heap.size_push]; exact Nat.lt_succ_self _
    · intro D C h tk m' ys news' F' N' o1 hn hC₀ hD₀ hCL hDL hCD offC fin
      refine ⟨m', hn, fun h'' hs'' => fin D h'' tk (F'.change hs'' hCL hC₀) (fun p hp => ?_) o1⟩
      refine ⟨hs''.extBut _ _ ?_ (N' p hp).1, (N' p hp).2⟩
      rcases List.mem_cons.mp hp with rfl | hp
      · exact Ne.symm hCD
      · exact offC p hp
  · refine wpAny_pyIter_ascii ha ?_
    refine LCg.block_U (Walks.strAscii hh s₁.heap.objs.size (mk l) t) hsz' (fun i h st => by obtain ⟨o, e, _⟩ := st; exact ⟨o, e⟩) (sts _ _) hcell hkind hx ⟨_, Heap.get?_push_size _ rfl, rfl, rfl⟩ (fun b hb => ?_)
      (F.keeps (up _)) (N.grown (up _)) (Nat.ne_of_lt F.ns.lt) (next_is_new F) (fun p hp => Nat.ne_of_lt (Heap.lt_size (N p hp).1)) trivial (R _) ?_
    · rw [List.mem_singleton.mp hb]
      show s₁.heap.objs.size < (s₁.heap.push _).objs.size
      rw [Heap.size_push]; exact Nat.lt_succ_self _
    · intro D C h tk m' ys news' F' N' o1 hn hC₀ hD₀ hCL hDL hCD offC fin
      refine ⟨m', hn, fun h'' hs'' => fin D h'' tk (F'.change hs'' hCL hC₀) (fun p hp => ?_) o1⟩
      refine ⟨hs''.extBut _ _ ?_ (N' p hp).1, (N' p hp).2⟩
      rcases List.mem_cons.mp hp with rfl | hp
      · exact Ne.symm hCD
      · exact offC p hp
theorem src_signs {elt : PySem.Expr} {x : PySem.Str} {scope : Scope} {cl : List (PySem.Str × Addr)} {Q : Value → Shared → Prop} {l : List Nat} {t : Tok} {news : List (Addr × Obj)} {s₁ : Shared} (R : Nat → Value → Prop)
    (hh : A.handled = none) (F : Fr h₀ L s₁.heap m) (N : News h₀ L s₁.heap news) (hsz : l.length ≤ sizeLine)
    (step : ∀ g i c u, l[i]? = some c → EltOk prog w A h₀ L m env elt x scope cl { s₁ with heap := g } news (.str (mk [c]) u) (R i))
    (fin : ∀ (g : Heap) (ys : List Value), ys.length = l.length → (∀ i y, ys[i]? = some y → R i y) → LCg.FinE h₀ L m { s₁ with heap := g } Q ys news) :
    MySigns prog w A h₀ L m env elt x scope cl Q (.str (mk l) t) s₁ := by
  refine ⟨l, t, news, rfl, hh, F, N, hsz, fun g => ?_⟩
  have e : (mk l).cps.size = l.length := by rw [← Array.length_toList, mk_toList]
  refine comp_all R _ trivial (fun i v hi hP => ?_) fun ys hl hR => fin g ys (by rw [hl, e]) hR
  obtain ⟨c, u, hc, rfl⟩ := hP
  exact step g i c u (by rw [← Array.getElem?_toList, mk_toList] at hc; exact hc)
end
end Mine
end

section
open PySem PySem.W PyProof.Rows PySem.Calls
set_option Elab.async false
set_option maxRecDepth 100000
set_option maxHeartbeats 0
namespace Mine
section
variable {prog : Program} {w : World} {A : Around} {E : Value → Shared → Prop} {s : Shared} {env : Env} {h₀ : Heap} {x : PySem.Str} {body : List Stmt} {Q : Flow → Shared → Prop}
/-- a range down by ones, with a break that ends as the loop ends -/
theorem iter_down_b {r : Addr} {a₀ b₀ : Int} {t₀ u₀ v₀ : Tok} {n : Nat} {m₀ : PySem.Str → Option Value} {news : List (Addr × Obj)} (J : Nat → (PySem.Str → Option Value) → List (Addr × Obj) → Prop) (Jend : (PySem.Str → Option Value) → List (Addr × Obj) → Prop)
    (hh : A.handled = none) (hr : IsRange s.heap r a₀ b₀ (-1) t₀ u₀ v₀) (hsmall : Builtin.Range.small a₀ b₀ (-1) = true) (hn : Builtin.Range.rangeSize a₀ b₀ (-1) = (n : Int)) (F : Fr h₀ env.locals s.heap m₀) (N : News h₀ env.locals s.heap news) (hj : J 0 m₀ news)
    (hend : ∀ m nx, J n m nx → Jend m nx)
    (turn : ∀ i t m₁ news₁ h tk own, i < n → J i m₁ news₁ → (∀ p ∈ own, ∀ q ∈ news₁, p.1 ≠ q.1) → Fr h₀ env.locals h (fun y => if y = x then some (.int (a₀ + (i : Int) * (-1)) t) else m₁ y) → News h₀ env.locals h (news₁ ++ own) →
      wpAny (model prog w) A (execs body env) (EndPost h₀ env.locals (J (i + 1)) Jend own { s with heap := h, toks := tk } Q) E { s with heap := h, toks := tk })
    (done : ∀ m₁ news₁ h tk, Jend m₁ news₁ → Fr h₀ env.locals h m₁ → News h₀ env.locals h news₁ → Q .next { s with heap := h, toks := tk }) :
    wpAny (model prog w) A (pyIter (.ref r)) (fun it s₂ => LoopAtV prog w A h₀ env x body Q E it s₂) E s := by
  refine iter_down J hh hr hsmall hn F N hj ?_ (fun m₁ news₁ h tk hJ F₁ N₁ => done _ _ _ _ (hend _ _ hJ) F₁ N₁)
  intro i t m₁ news₁ h tk own hi hJ hsep F₁ N₁
  refine wpAny_mono (turn i t m₁ news₁ h tk own hi hJ hsep F₁ N₁) (fun f s₂ p => ?_) fun _ _ e => e
  cases f with
  | ret v => exact p
  | brk =>
    obtain ⟨h', tk', m', news₂, rfl, F', N', _, hb⟩ := p
    exact done _ _ _ _ hb F' fun q hq => N' q (List.mem_append_left _ hq)
  | next => exact p
  | cont => exact p
end
end Mine
end

section
open PySem PySem.W PyProof.Rows PySem.Calls
set_option Elab.async false
set_option maxRecDepth 100000
set_option maxHeartbeats 0
namespace Mine
theorem Vals.drop {α : Type} {f : α → Tok → Value} {vs : List Value} {as : List α} (h : Vals f vs as) (k : Nat) : Vals f (vs.drop k) (as.drop k) := by
  refine ⟨by rw [List.length_drop, List.length_drop, h.1], fun i v hv => ?_⟩
  rw [List.getElem?_drop] at hv ⊢
  exact h.2 _ v hv
theorem Vals.texts : ∀ {vs : List Value} {as : List (List Nat)}, Vals strV vs as → Texts vs as
  | [], [], _ => .nil
  | [], _ :: _, h => absurd h.1 (by simp)
  | _ :: _, [], h => absurd h.1 (by simp)
  | v :: vs, a :: as, h => by
    obtain ⟨a', t, ha, rfl⟩ := h.2 0 v rfl
    obtain rfl : a = a' := by simpa using ha
    exact .cons a t (Vals.texts (h.drop 1))
theorem Texts.vals {vs : List Value} {as : List (List Nat)} (h : Texts vs as) : Vals strV vs as := by
  refine ⟨h.length, fun i v hv => ?_⟩
  obtain ⟨l, t, hl, e⟩ := h.get hv
  exact ⟨l, t, hl, e⟩
theorem slice_vals {α : Type} {f : α → Tok → Value} {as : List α} {w : World} {A : Around} {E : Value → Shared → Prop} {s : Shared} {h₀ : Heap} {L a : Addr} {m : PySem.Str → Option Value} {news : List (Addr × Obj)} {vs : List Value} {ep k : Nat} {u : Tok} {n : Int} {value slice : PySem.Expr} {Q : Value → Shared → Prop}
    (F : Fr h₀ L s.heap m) (N : News h₀ L s.heap news) (hm : (a, W.listOf vs.toArray ep) ∈ news) (V : Vals f vs as) (hk : n = k) (hz : as.length ≤ 1000000)
    (h : ∀ D ws h', Fr h₀ L h' m → News h₀ L h' ((D, W.listOf (List.toArray ws) 0) :: news) → (∀ p ∈ news, p.1 < D) → Vals f ws (as.drop k) → Q (.ref D) { s with heap := h' })
    (hs : subscripted slice false (.ref a) (.ref s.heap.objs.size) = operate [.ref s.heap.objs.size, .ref a] (getItem (.ref a) (.ref s.heap.objs.size)) := by with_unfolding_all rfl) (ht : ∀ r, letTemporaryGo value (.ref a) r = pure () := by intro _; with_unfolding_all rfl) :
    wpAny (model PySem.Challenge.rw_il0084_01.row.prog w) A (subscriptTail value slice (.ref a) (.ref s.heap.objs.size)) Q E { s with heap := s.heap.push { cls := .type "slice", data := .fields #[.int n u, .none, .none] } } := by
  subst hk
  refine kmk_slice F N (news_list N hm rfl rfl) (.int _ _) .none (fun D h' F' N' l1 => h D (vs.drop k) h' F' ?_ l1 (V.drop k)) hs ht (by rw [PySem.sizeLine_eq, List.size_toArray, V.1]; omega)
  rw [slicePick_from'] at N'
  exact N'
theorem mapIdx_const {α β : Type} (f : α → β) (l : List α) : (l.mapIdx fun _ a => f a) = l.map f := by
  apply List.ext_getElem?
  intro i
  rw [List.getElem?_mapIdx, List.getElem?_map]
theorem rightN_le (d : Nat) : rightN d ≤ 4096 := by
  have h : ∀ x ∈ setsTab, x ≤ 4096 := by decide
  unfold rightN
  rw [List.getD]
  cases e : setsTab[d / 7]? with
  | none => exact Nat.zero_le _
  | some y => exact h y (List.mem_of_getElem? e)
theorem rights_ok {ds : List Nat} {k j r : Nat} (h : ((ds.mapIdx fun _ d => rightN d).drop k)[j]? = some r) : r ≤ 100000 := by
  rw [mapIdx_const, ← List.map_drop, List.getElem?_map] at h
  obtain ⟨d, _, rfl⟩ := Option.map_eq_some_iff.mp h
  exact Nat.le_trans (rightN_le d) (by decide)
/-- the letters that run from a place on -/
def runsL (ds : List Nat) (k : Nat) : List (List Nat) := (ds.drop k).map fun d => lettersL (rightN d)
theorem runs_eq (ds : List Nat) (k : Nat) : (((ds.mapIdx fun _ d => rightN d).drop k).mapIdx fun _ r => lettersL r) = runsL ds k := by
  rw [mapIdx_const, mapIdx_const, ← List.map_drop, List.map_map]; rfl
theorem runs_len (ds : List Nat) (k : Nat) (h : ds.length ≤ 10) : ((runsL ds k).map List.length).sum ≤ 90 ∧ (runsL ds k).flatten.length ≤ 90 := by
  have main : ∀ l : List Nat, ((l.map fun d => lettersL (rightN d)).map List.length).sum ≤ 9 * l.length := by
    intro l
    induction l with
    | nil => simp
    | cons a r ih =>
      have := lettersL_len (rightN a)
      simp only [List.map_cons, List.sum_cons, List.length_cons] at ih ⊢
      omega
  have h1 := main (ds.drop k)
  rw [List.length_drop] at h1
  have h2 : ((runsL ds k).map List.length).sum ≤ 90 := by unfold runsL; omega
  exact ⟨h2, by rw [List.length_flatten]; exact h2⟩
theorem told_sum (g1 g2 : Nat) (ls : List Nat) (h : ls.length ≤ 90) : (([g1, g2].map fun g => toldL g ls).map List.length).sum ≤ 1000 := by
  have h1 := (told_len g1 ls).2
  have h2 := (told_len g2 ls).2
  simp only [List.map_cons, List.map_nil, List.sum_cons, List.sum_nil]
  omega
theorem off3 {c : Addr} {a b d : Addr × Obj} {own : List (Addr × Obj)} (h1 : a.1 ≠ c) (h2 : b.1 ≠ c) (h3 : d.1 ≠ c) (h : ∀ p ∈ own, p.1 ≠ c) : ∀ p ∈ a :: b :: d :: own, p.1 ≠ c := by
  intro p hp
  rcases List.mem_cons.mp hp with rfl | hp
  · exact h1
  rcases List.mem_cons.mp hp with rfl | hp
  · exact h2
  rcases List.mem_cons.mp hp with rfl | hp
  · exact h3
  exact h p hp
theorem off1_mem {D : Addr} : ∀ {l : List (Addr × Obj)}, LCg.Off1 D l → ∀ p ∈ l, p.1 ≠ D
  | [], _, _, h => nomatch h
  | _ :: _, x, p, h => by
    rcases List.mem_cons.mp h with rfl | h
    · exact x.1
    · exact off1_mem x.2 p h
theorem news_drop1 {h₀ h : Heap} {L : Addr} {a : Addr × Obj} {tl : List (Addr × Obj)} (N : News h₀ L h (a :: tl)) : News h₀ L h tl := fun p hp => N p (List.mem_cons_of_mem _ hp)
theorem news_swap {h₀ h : Heap} {L : Addr} {a b : Addr × Obj} {tl : List (Addr × Obj)} (N : News h₀ L h (a :: b :: tl)) : News h₀ L h (b :: a :: tl) := fun p hp => by
  rcases List.mem_cons.mp hp with rfl | hp
  · exact N _ (List.mem_cons_of_mem _ (List.mem_cons_self ..))
  rcases List.mem_cons.mp hp with rfl | hp
  · exact N _ (List.mem_cons_self ..)
  exact N p (List.mem_cons_of_mem _ (List.mem_cons_of_mem _ hp))
theorem eq_mk_true {w : World} {A : Around} {E : Value → Shared → Prop} {s : Shared} {a b : List Nat} {t u : Tok} {Q : Value → Shared → Prop} (hab : a = b) (h : Q (.bool true) s) : wpAny (model PySem.Challenge.rw_il0084_01.row.prog w) A (compareOp .Eq (.str (mk a) t) (.str (mk b) u)) Q E s := by
  subst hab
  refine eq_str ?_
  rw [mk_beq, decide_eq_true rfl]; exact h
end Mine
end

section
open PySem PySem.W PyProof.Rows PySem.Calls
set_option Elab.async false
set_option maxRecDepth 100000
set_option maxHeartbeats 0
namespace Mine
local macro_rules | `(tactic| k_room) => `(tactic| ktr_room)
local macro_rules | `(tactic| k_qdec) => `(tactic| decide +kernel)
local macro_rules | `(tactic| walk_at "binaryOp Mod int int") => `(tactic| ((with_reducible show wpAny _ _ (binaryOp _ (Value.int (Nat.cast _) _) _) _ _ _); k_dflt (first | refine mod_nat (b := 7) rfl (by decide) ?_ | refine mod_nat (b := 8) rfl (by decide) ?_)))
local macro_rules | `(tactic| walk_at "binaryOp FloorDiv int int") => `(tactic| ((with_reducible show wpAny _ _ (binaryOp _ (Value.int (Nat.cast _) _) _) _ _ _); k_dflt (first | refine fdiv_nat (b := 7) rfl (by decide) (by decide) ?_ | refine fdiv_nat (b := 5) rfl (by decide) (by decide) ?_)))
local macro_rules | `(tactic| walk_at "subscriptTail Constant BinOp str int") => `(tactic| k_dflt ((first | refine item_of (l := kindTab) (by decide +kernel) rfl (tab_some (l := kindTab) (Nat.mod_lt _ (by decide) : _ < 7)) (by omega) ?_ | refine item_of (l := signTab) (by decide +kernel) rfl (tab_some (l := signTab) (Nat.mod_lt _ (by decide) : _ < 8)) (by omega) ?_); intro _ _))
local macro_rules | `(tactic| walk_at "exec Assign cons ListComp") => `(tactic| k_dflt (refine lc_assign (F₀ := by k_asm) (by rfl) (by with_unfolding_all rfl) (by with_unfolding_all rfl) (by decide) (by rfl) (by decide) (by rfl) (by rfl) (by rfl) ?_))
theorem drawsOf_lt {xs : List Int} {d : Nat} (h : d ∈ drawsOf xs) : d < 84 := by
  unfold drawsOf at h
  rcases List.mem_append.mp h with h | h
  · simp at h; omega
  · obtain ⟨x, _, rfl⟩ := List.mem_map.mp h
    exact drawOf_lt x
theorem fr_get {h₀ h : Heap} {L : Addr} {m : PySem.Str → Option Value} (F : Fr h₀ L h m) (x : PySem.Str) {a : Addr} (e : m x = some (.ref a)) : ∃ a', a' = a ∧ m x = some (.ref a') := ⟨a, rfl, e⟩
theorem news_name {h₀ h : Heap} {L : Addr} {news : List (Addr × Obj)} (N : News h₀ L h news) : ∃ NW, NW = news ∧ News h₀ L h NW := ⟨news, rfl, N⟩
local macro_rules | `(tactic| walk_at "my close") => `(tactic| ((case k1 => k_asm); (case k2 => k_asm); (case k3 => k_asm); (case k4 => k_asm); (case k5 => k_asm); (case kK => exact rfl); (case kd => with_unfolding_all exact Nat.le_of_ble_eq_true rfl); (case ku => with_unfolding_all exact Nat.le_of_ble_eq_true rfl)))
theorem mode_split {d : Nat} (h : d < 84) : ∃ rest, fmL (modeN d : Int) = kindC d :: rest ∧ rest.length = 9 := by
  obtain ⟨_, h2, h3, _⟩ := modes h
  cases hf : fmL (modeN d : Int) with
  | nil => rw [hf] at h2; cases h2
  | cons a r =>
    rw [hf] at h2 h3
    obtain rfl : a = kindC d := by simpa using h3
    exact ⟨r, rfl, by simpa using h2⟩
theorem name_head (k d : Nat) : (nameL k d).head? ≠ some 47 := by
  intro h
  have := (name_ok k d (signTab.getD ((d + k) % 8) 0) (by simp [nameL])).2
  exact this (by simpa [nameL] using h)
theorem c_join_of (w : World) (mean : ExcName → Option Value) (mg mb : PySem.Str → Option Value) {la lb : List Nat} {x y : PySem.Str} (hx : x = mk la) (hy : y = mk lb) (ta tb : Tok) : Cl w mean mg mb 157 2 24 (la ≠ [] ∧ lb.head? ≠ some 47 ∧ la.length ≤ 200000 ∧ lb.length ≤ 200000) [.str x ta, .str y tb]
    (fun t' => .str (mk (if la.getLast? = some 47 then la ++ lb else la ++ [47] ++ lb)) t') := by
  subst hx hy
  exact c_join w mean mg mb la lb ta tb
theorem no_head {l : List Nat} (h : 47 ∉ l) : l.head? ≠ some 47 := fun e => h (List.mem_of_head? e)
theorem texts_len (ds : List Nat) (i : Nat) (hi : i ≤ 10) : ∀ p ∈ (parts ds i).map textOf ++ [[46, 46]], p.length ≤ 740 := by
  intro p hp
  rcases List.mem_append.mp hp with hp | hp
  · obtain ⟨q, hq, rfl⟩ := List.mem_map.mp hp
    obtain ⟨k, _, rfl⟩ := List.mem_map.mp hq
    have := (text_gd ds i k).2.2.2
    omega
  · rw [List.mem_singleton.mp hp]; decide
local macro_rules | `(tactic| walk_at "my for") => `(tactic| repeat ((fail_if_success (with_reducible show wpAny _ _ (exec (Stmt.For _ _ _ _ _) _) _ _ _)); walk1))
theorem c_join_to (w : World) (mean : ExcName → Option Value) (mg mb : PySem.Str → Option Value) {la lb out : List Nat} {x y : PySem.Str} (hx : x = mk la) (hy : y = mk lb) (ho : (if la.getLast? = some 47 then la ++ lb else la ++ [47] ++ lb) = out) (ta tb : Tok) : Cl w mean mg mb 157 2 24 (la ≠ [] ∧ lb.head? ≠ some 47 ∧ la.length ≤ 200000 ∧ lb.length ≤ 200000) [.str x ta, .str y tb]
    (fun t' => .str (mk out) t') := by
  subst ho
  exact c_join_of w mean mg mb hx hy ta tb
local macro_rules | `(tactic| walk_at "my iter") => `(tactic| repeat ((fail_if_success (with_reducible show wpAny _ _ (pyIter _) _ _ _)); walk1))
theorem all7 {m : PySem.Str → Option Value} {a b c d e f g : PySem.Str} {x y z u v p q : Value} (h1 : m a = some x) (h2 : m b = some y) (h3 : m c = some z) (h4 : m d = some u) (h5 : m e = some v) (h6 : m f = some p) (h7 : m g = some q) : ∀ r ∈ [(a, x), (b, y), (c, z), (d, u), (e, v), (f, p), (g, q)], m r.1 = some r.2 := by
  intro r hr
  simp only [List.mem_cons, List.not_mem_nil, or_false] at hr
  rcases hr with rfl | rfl | rfl | rfl | rfl | rfl | rfl <;> assumption
local macro_rules | `(tactic| walk_at "my sub") => `(tactic| repeat ((fail_if_success (with_reducible show wpAny _ _ (subscriptTail _ _ _ _) _ _ _)); walk1))
theorem int_is {a b : Int} {t : Tok} (h : a = b) : some (Value.int a t) = some (Value.int b t) := by rw [h]
local macro_rules | `(tactic| walk_at "my bin") => `(tactic| repeat ((fail_if_success (with_reducible show wpAny _ _ (binaryOp _ _ _) _ _ _)); walk1))
theorem news_drop2 {h₀ h : Heap} {L : Addr} {a b c : Addr × Obj} {tl : List (Addr × Obj)} (N : News h₀ L h (a :: b :: c :: tl)) : News h₀ L h (a :: tl) := fun p hp => by
  rcases List.mem_cons.mp hp with rfl | hp
  · exact N _ (List.mem_cons_self ..)
  · exact N _ (List.mem_cons_of_mem _ (List.mem_cons_of_mem _ (List.mem_cons_of_mem _ hp)))
theorem ne_cons {h₀ h : Heap} {L : Addr} {a b : Addr × Obj} {rest own : List (Addr × Obj)} (_hs : ∀ p ∈ own, ∀ q ∈ a :: rest, p.1 ≠ q.1) (N : News h₀ L h (b :: a :: (rest ++ own))) : ∀ q ∈ rest, q.1 ≠ h.objs.size := fun q hq =>
  Nat.ne_of_lt (Heap.lt_size (N q (List.mem_cons_of_mem _ (List.mem_cons_of_mem _ (List.mem_append_left _ hq)))).1)
theorem sep_cons {h₀ h : Heap} {L : Addr} {a b : Addr × Obj} {rest own : List (Addr × Obj)} (hs : ∀ p ∈ own, ∀ q ∈ a :: rest, p.1 ≠ q.1) (N : News h₀ L h (b :: a :: (rest ++ own))) : ∀ o, ∀ p ∈ own, ∀ q ∈ (h.objs.size, o) :: rest, p.1 ≠ q.1 := by
  intro o p hp q hq
  rcases List.mem_cons.mp hq with rfl | hq
  · exact Nat.ne_of_lt (Heap.lt_size (N p (List.mem_cons_of_mem _ (List.mem_cons_of_mem _ (List.mem_append_right _ hp)))).1)
  · exact hs p hp q (List.mem_cons_of_mem _ hq)
theorem st_pos {st : Nat} (h : decide ((0 : Int) < (st : Int)) = true) : 0 < st := by have := of_decide_eq_true h; omega
local macro_rules | `(tactic| walk_at "my lc") => `(tactic| repeat ((fail_if_success (with_reducible show wpAny _ _ (eval (PySem.Expr.ListComp _ _ _ _) _) _ _ _)); walk1))
local macro_rules | `(tactic| walk_at "my call") => `(tactic| repeat ((fail_if_success (with_reducible show _ ∧ _)); (fail_if_success (with_reducible show wpAny _ _ (call (Value.builtin _) _) _ _ _)); walk1))
local macro_rules | `(tactic| walk_at "my store") => `(tactic| repeat ((fail_if_success (with_reducible show wpAny _ _ (storeName _ _ _) _ _ _)); walk1))
local macro_rules | `(tactic| walk_at "my cmp") => `(tactic| repeat ((fail_if_success (with_reducible show wpAny _ _ (compareOp _ _ _) _ _ _)); walk1))
theorem cell_addr {h₀ h : Heap} {L : Addr} {a b c d e f g i : Addr × Obj} {cc : Addr} {o : Obj} {tl : List (Addr × Obj)} (_ : News h₀ L h (a :: b :: c :: d :: e :: f :: g :: i :: (cc, o) :: tl)) : ∃ cL oL, cL = cc ∧ oL = o := ⟨_, _, rfl, rfl⟩
theorem all4' {m : PySem.Str → Option Value} {a b c d : PySem.Str} {x y z u : Value} (h1 : m a = some x) (h2 : m b = some y) (h3 : m c = some z) (h4 : m d = some u) : ∀ r ∈ [(a, x), (b, y), (c, z), (d, u)], m r.1 = some r.2 := all4 h1 h2 h3 h4
theorem law_holds : PySem.Challenge.rw_il0084_01.Holds := Mine.hd (by
  k_go0
  (rename List Int => xs)
  iterate 10 walk1
  k_dflt (refine LCg.ListComp_U (F₀ := by k_asm) (by rfl) (by decide) (by rfl) (by decide) (by rfl) ?_)
  iterate 8 walk1
  (rename (List.take 8 _).length = min 8 _ => hC8)
  (rename IntsAre _ (List.take 8 _) => hI8)
  have hl8 := hI8.length
  k_dflt (refine LCg.CompSrc.ledger (by rfl) (by k_asm) (by k_asm) (by k_mem) (by rw [PySem.sizeLine_eq, List.size_toArray]; omega) ?_)
  intro g'
  refine comp_all (fun i y => ∃ x t, (xs.take 8)[i]? = some x ∧ y = .int (Int.fmod x 84) t) _ ?_ ?_ ?_
  · exact Or.inr ⟨_, by k_mem, rfl, _, rfl⟩
  · intro i v hi hP
    obtain ⟨x, tx, rfl, hx⟩ := hI8.at i v (by simpa using hP)
    intro I oI C oC D oD m₂ h tk E' hC hxv F₂ N₂ off ne
    k_steps
    exact ⟨_, _, rfl, (by k_asm), (by k_asm), x, _, hx, rfl⟩
  · intro ys hyl hys
    have hV := draws_vals (by rw [hyl, List.size_toArray, hl8]) hys
    clear hys
    intro D h tk F₂ N₂ off
    refine add_lists F₂ N₂ (news_list N₂ (by k_mem) rfl rfl) (news_list N₂ (by k_mem) rfl rfl) ?_ (by rw [PySem.sizeLine_eq]; simp only [List.length_cons, List.length_nil, hyl, List.size_toArray]; omega)
    intro h' F₃ N₃
    have l9 : _ < h.objs.size ∧ _ < h.objs.size ∧ _ < h.objs.size := ⟨Heap.lt_size (N₂ _ (List.mem_cons_of_mem _ (List.mem_cons_of_mem _ (List.mem_cons_of_mem _ (List.mem_cons_self ..))))).1, Heap.lt_size (N₂ _ (List.mem_cons_of_mem _ (List.mem_cons_of_mem _ (List.mem_cons_of_mem _ (List.mem_cons_of_mem _ (List.mem_cons_self ..)))))).1, Heap.lt_size (N₂ _ (List.mem_cons_of_mem _ (List.mem_cons_of_mem _ (List.mem_cons_of_mem _ (List.mem_cons_of_mem _ (List.mem_cons_of_mem _ (List.mem_cons_self ..))))))).1⟩
    dsimp only at l9
    replace N₃ := news_drop3 N₃
    obtain ⟨dvs, ep, hdv, N₄⟩ := head_vals N₃ (draws_all hV)
    clear N₂ F₂ hV N₃
    clear hyl ys
    have hl10 : (drawsOf xs).length ≤ 1000000 := by rw [drawsOf]; simp; omega
    k_steps
    k_dflt (refine src_ledger (fun i y => ∃ d t, (drawsOf xs)[i]? = some d ∧ y = strV [kindC d] t) rfl (by k_asm) (by k_asm) (by k_mem) (by rw [PySem.sizeLine_eq, hdv.1, drawsOf]; simp; omega) ?_ ?_)
    · intro g i v hv
      obtain ⟨d, td, hd, hv⟩ := hdv.2 i v hv
      replace hv : v = .int (d : Int) td := hv
      subst hv
      intro I oI C oC D oD m₂ h tk E' hC hxv F₂ N₂ off ne
      iterate 6 walk1
      refine item_of (l := kindTab) (by decide +kernel) rfl (tab_some (l := kindTab) (Nat.mod_lt _ (by decide) : _ < 7)) (by omega) ?_
      k_steps
      exact ⟨_, _, rfl, (by k_asm), (by k_asm), d, _, hd, rfl⟩
    · intro g ys hyl hys
      have hkm := map_vals (fun _ d => [kindC d]) hdv.1 hyl hys
      clear hys
      intro Dk h tk F₂ N₂ off
      obtain ⟨kvs, kep, hkv, N₄⟩ := head_vals N₂ hkm
      clear hkm N₂ hyl
      clear ys
      k_steps
      k_dflt (refine src_ledger (fun i y => ∃ d t, (drawsOf xs)[i]? = some d ∧ y = intV (rightN d) t) rfl (by k_asm) (by k_asm) (by k_mem) (by rw [PySem.sizeLine_eq, hdv.1, drawsOf]; simp; omega) ?_ ?_)
      · intro g i v hv
        obtain ⟨d, td, hd, hv⟩ := hdv.2 i v hv
        replace hv : v = .int (d : Int) td := hv
        subst hv
        intro I oI C oC D oD m₂ h tk E' hC hxv F₂ N₂ off ne
        have hd84 : d < 84 := drawsOf_lt (List.mem_of_getElem? hd)
        have hd12 : d / 7 < setsTab.length := by show d / 7 < 12; omega
        iterate 6 walk1
        refine item_sets (by k_asm) (by k_mem) sets_vals rfl (tab_some hd12) (by decide) ?_
        intro _
        exact ⟨_, _, rfl, (by k_asm), (by k_asm), d, _, hd, rfl⟩
      · intro g ys hyl hys
        have hrm := map_vals (fun _ d => rightN d) hdv.1 hyl hys
        clear hys
        intro Dr h tk F₂ N₂ off
        obtain ⟨rvs, rep, hrv, N₄⟩ := head_vals N₂ hrm
        clear hrm N₂ hyl
        clear ys
        iterate 12 walk1
        refine len_of (by k_asm) (by k_mem) hdv hl10 ?_
        intro _ _
        k_steps
        (rename IsRange _ _ _ _ _ _ _ _ => hR)
        k_dflt (refine src_range (n := (drawsOf xs).length) (fun i y => ∃ d t, (drawsOf xs)[i]? = some d ∧ y = strV (nameL i d) t) rfl (by k_asm) (by k_asm) hR (small_up ?_) (size_up _) ?_ ?_ ?_)
        · rw [drawsOf]; simp; omega
        · rw [PySem.sizeLine_eq, drawsOf]; simp; omega
        · intro g i t hi
          have hd : (drawsOf xs)[i]? = some (drawsOf xs)[i] := List.getElem?_eq_getElem hi
          generalize (drawsOf xs)[i] = d at hd
          intro I oI C oC D oD m₂ h tk E' hC hxv F₂ N₂ off ne
          iterate 8 walk1
          refine item_sets (by k_asm) (by k_mem) hdv (Int.zero_add _) hd hl10 ?_
          intro _
          iterate 1 walk1
          refine add_nat (Int.zero_add _) ?_
          intro _ _
          iterate 2 walk1
          refine item_of (l := signTab) (by decide +kernel) rfl (tab_some (l := signTab) (Nat.mod_lt _ (by decide) : _ < 8)) (by omega) ?_
          intro _ _
          iterate 7 walk1
          refine item_sets (by k_asm) (by k_mem) hdv (Int.zero_add _) hd hl10 ?_
          intro _
          iterate 4 walk1
          refine item_of (l := signTab) (by decide +kernel) rfl (tab_some (l := signTab) (Nat.mod_lt _ (by decide) : _ < 8)) (by omega) ?_
          intro _ _
          refine add_mk (by simp) ?_
          intro _ _
          exact ⟨_, _, rfl, (by k_asm), (by k_asm), d, _, hd, rfl⟩
        · intro g ys hyl hys
          have hnm := map_vals nameL rfl hyl hys
          clear hys
          intro Dn h tk F₂ N₂ off
          obtain ⟨nvs, nep, hnv, N₄⟩ := head_vals N₂ hnm
          clear hnm N₂ hyl
          clear ys
          iterate 5 walk1
          (rename Fr _ _ _ _ => lF)
          obtain ⟨aS, rfl, hmS⟩ := fr_get lF (PySem.Str.ofString "sorts") rfl
          with_unfolding_all refine For_invVF lF rfl rfl ?_
          iterate 10 walk1
          refine len_of (by k_asm) (by k_mem) hdv hl10 ?_
          intro _ _
          iterate 2 walk1
          (rename Fr _ _ _ _ => lF2)
          (rename News _ _ _ _ => lN2)
          (rename IsRange _ _ _ _ _ _ _ _ => hR)
          obtain ⟨NW, hNW, lN3⟩ := news_name lN2
          have hlen : (drawsOf xs).length ≤ 10 := by rw [drawsOf]; simp; omega
          refine iter_range (n := (drawsOf xs).length) (fun i m nx => nx = NW ∧ (∃ t, m (PySem.Str.ofString "path") = some (.str (mk (pathOf (parts (drawsOf xs) i))) t)) ∧ m (PySem.Str.ofString "sorts") = some (.ref aS) ∧ m (PySem.Str.ofString "names") = some (.ref Dn) ∧ m (PySem.Str.ofString "rights") = some (.ref Dr) ∧ m (PySem.Str.ofString "kinds") = some (.ref Dk))
            rfl hR (small_up (by omega)) (size_up _) lF2 lN3 ⟨rfl, ⟨_, told_is rfl⟩, rfl, rfl, rfl, rfl⟩ ?_ ?_
          · intro i tk₀ m₁ news₁ h tk own hi hJ hsep F₁ N₁
            obtain ⟨rfl, ⟨tp, hmp⟩, h1, h2, h3, h4⟩ := hJ
            rw [Int.mul_one, Int.zero_add] at F₁
            replace F₁ := fr_known_x [(PySem.Str.ofString "path", _), (PySem.Str.ofString "sorts", _), (PySem.Str.ofString "names", _), (PySem.Str.ofString "rights", _), (PySem.Str.ofString "kinds", _)] F₁ (all5 hmp h1 h2 h3 h4)
            dsimp only [kstB] at F₁
            subst hNW
            simp only [List.cons_append, List.nil_append] at N₁
            clear lN3 lN2
            have hd : (drawsOf xs)[i]? = some (drawsOf xs)[i] := List.getElem?_eq_getElem hi
            have hgd : (drawsOf xs).getD i 0 = (drawsOf xs)[i] := by rw [List.getD, hd]; rfl
            have hd84 : (drawsOf xs)[i] < 84 := drawsOf_lt (List.getElem_mem hi)
            have hd7 : (drawsOf xs)[i] % 7 < sortsTab.length := Nat.mod_lt _ (by decide)
            have hri : ((drawsOf xs).mapIdx fun _ d => rightN d)[i]? = some (rightN (drawsOf xs)[i]) := by rw [List.getElem?_mapIdx, hd]; rfl
            have hni : ((drawsOf xs).mapIdx nameL)[i]? = some (nameL i (drawsOf xs)[i]) := by rw [List.getElem?_mapIdx, hd]; rfl
            have hmodes := modes hd84
            have hpl := (parts_len (drawsOf xs) i (by omega)).2
            generalize (drawsOf xs)[i] = d at hd hgd hd84 hd7 hri hni hmodes
            iterate 13 walk1
            refine item_sets (by k_asm) (by k_mem) hdv rfl hd hl10 ?_
            intro _
            iterate 2 walk1
            refine item_sets (by k_asm) (by k_mem) sorts_vals rfl (tab_some hd7) (by decide) ?_
            intro _
            iterate 3 walk1
            refine item_sets (by k_asm) (by k_mem) hrv rfl hri (by simp; omega) ?_
            intro _
            refine add_nat rfl ?_
            intro _ _
            iterate 1 walk1
            (rename Frag.In _ _ => X')
            refine And.intro (Frag.In.keeps X' F₁.keep) ?_
            k_dflt (refine' Cl.use (c_filemode _ _ _ _ (modeN d : Int) _) ?k1 ?k2 ?k3 ?k4 ?k5 ?kK ?kp ?kd ?ku ?_)
            walk_at "my close"
            case kp => exact ⟨Int.natCast_nonneg _, by have := hmodes.1; omega⟩
            k_whole
            intro ts h9 tk9 F9 N9
            (try dsimp only)
            (try k_fold)
            obtain ⟨rest, hfm, hr9⟩ := mode_split hd84
            have hpn := path_next (drawsOf xs) i hi (by rw [hgd]; exact hd84)
            rw [hgd, hfm] at hpn
            replace hpn : rest.foldl (fun l c => runL c l) (pathOf (moved (drawsOf xs) i)) = pathOf (parts (drawsOf xs) (i + 1)) := hpn
            rw [hfm]
            iterate 7 walk1
            refine item_at (i := 0) (c := kindC d) rfl rfl (by decide) ?_
            intro _ _
            iterate 1 walk1
            refine eq1 (k := 100) (by decide +kernel) ?_
            iterate 2 walk1
            · iterate 12 walk1
              refine item_strs (by k_asm) (by k_mem) hnv rfl hni (by simp; omega) ?_
              intro _
              iterate 1 walk1
              (rename Fr _ _ _ _ => lFx)
              refine And.intro (Frag.In.keeps X' lFx.keep) ?_
              k_dflt (refine' Cl.use (c_join _ _ _ _ _ _ _ _) ?k1 ?k2 ?k3 ?k4 ?k5 ?kK ?kp ?kd ?ku ?_)
              walk_at "my close"
              case kp => exact ⟨by simp [pathOf], name_head _ _, by omega, by simp [nameL]⟩
              k_whole
              intro t9 h9 tk9 F9 N9
              (try dsimp only)
              (try k_fold)
              rw [← hgd, path_d _ _ (by rw [hgd]; assumption)]
              walk_at "my for"
              (rename Fr _ _ _ _ => lF4)
              with_unfolding_all refine For_invVF lF4 rfl rfl ?_
              iterate 7 walk1
              (rename Fr _ _ _ _ => lF5)
              (rename News _ _ _ _ => lN5)
              refine sl_sn (s := ⟨_, _, _, _, _⟩) cut_from1 lF5 lN5 ?_ (hsz := by rw [mk_len, PySem.sizeLine_eq, List.length_cons]; omega)
              intro _ _ _ lF6 lN6
              obtain ⟨NI, hNI, lN7⟩ := news_name lN6
              refine iter_str (fun j m nx => nx = NI ∧ (∃ t, m (PySem.Str.ofString "path") = some (.str (mk ((rest.take j).foldl (fun l c => runL c l) (pathOf (moved (drawsOf xs) i)))) t)) ∧ m (PySem.Str.ofString "sorts") = some (.ref aS) ∧ m (PySem.Str.ofString "names") = some (.ref Dn) ∧ m (PySem.Str.ofString "rights") = some (.ref Dr) ∧ m (PySem.Str.ofString "kinds") = some (.ref Dk))
                rfl lF6 lN7 ⟨rfl, ⟨_, told_is rfl⟩, rfl, rfl, rfl, rfl⟩ ?_ ?_
              · intro j c u m₂ news₂ h₂ tk₂ own₂ hj hJ₂ hsep₂ F₂ N₂
                obtain ⟨rfl, ⟨tp₂, hmp₂⟩, g1, g2, g3, g4⟩ := hJ₂
                replace F₂ := fr_known_x [(PySem.Str.ofString "path", _), (PySem.Str.ofString "sorts", _), (PySem.Str.ofString "names", _), (PySem.Str.ofString "rights", _), (PySem.Str.ofString "kinds", _)] F₂ (all5 hmp₂ g1 g2 g3 g4)
                dsimp only [kstB] at F₂
                have hmid := path_len_mid (drawsOf xs) i j (by omega) rest (by omega)
                iterate 10 walk1
                refine And.intro (Frag.In.keeps X' F₂.keep) ?_
                k_dflt (refine' Cl.use (law_run _ _ _ _ _ _ _ _) ?k1 ?k2 ?k3 ?k4 ?k5 ?kK ?kp ?kd ?ku ?_)
                walk_at "my close"
                case kp => omega
                k_whole
                intro t9 h9 tk9 F9 N9
                (try dsimp only)
                (try k_fold)
                iterate 2 walk1
                refine ⟨_, _, _, news₂, rfl, (by k_asm), (by k_asm), hsep₂, rfl, ⟨_, told_is ?_⟩, rfl, rfl, rfl, rfl⟩
                rw [List.take_add_one, hj, List.foldl_append]; rfl
              · intro m₂ news₂ h₂ tk₂ hJ₂ F₂ N₂
                obtain ⟨rfl, ⟨tp₂, hmp₂⟩, g1, g2, g3, g4⟩ := hJ₂
                subst hNI
                rw [List.take_length, hpn] at hmp₂
                iterate 1 walk1
                refine ⟨_, _, _, _, rfl, F₂, ?_, hsep, rfl, ⟨_, hmp₂⟩, g1, g2, g3, g4⟩
                exact N₂
            · iterate 7 walk1
              refine item_at (i := 0) (c := kindC d) rfl rfl (by decide) ?_
              intro _ _
              iterate 1 walk1
              refine eq1 (k := 108) (by decide +kernel) ?_
              iterate 2 walk1
              · iterate 9 walk1
                obtain ⟨pre, last, e1, e2, e3, e4, e5⟩ := split_path (parts_gd (drawsOf xs) i)
                (rename Fr _ _ _ _ => lFx)
                refine And.intro (Frag.In.keeps X' lFx.keep) ?_
                k_dflt (refine' Cl.use (c_dirname _ _ _ _ _ pre last _) ?k1 ?k2 ?k3 ?k4 ?k5 ?kK ?kp ?kd ?ku ?_)
                walk_at "my close"
                case kp => exact ⟨e1, e2, e3, by omega⟩
                k_whole
                intro t9 h9 tk9 F9 N9
                (try dsimp only)
                (try k_fold)
                rw [e4, ← path_moved_l _ _ (Or.inl (by rw [hgd]; assumption))]
                walk_at "my for"
                (rename Fr _ _ _ _ => lF4)
                with_unfolding_all refine For_invVF lF4 rfl rfl ?_
                iterate 7 walk1
                (rename Fr _ _ _ _ => lF5)
                (rename News _ _ _ _ => lN5)
                refine sl_sn (s := ⟨_, _, _, _, _⟩) cut_from1 lF5 lN5 ?_ (hsz := by rw [mk_len, PySem.sizeLine_eq, List.length_cons]; omega)
                intro _ _ _ lF6 lN6
                obtain ⟨NI, hNI, lN7⟩ := news_name lN6
                refine iter_str (fun j m nx => nx = NI ∧ (∃ t, m (PySem.Str.ofString "path") = some (.str (mk ((rest.take j).foldl (fun l c => runL c l) (pathOf (moved (drawsOf xs) i)))) t)) ∧ m (PySem.Str.ofString "sorts") = some (.ref aS) ∧ m (PySem.Str.ofString "names") = some (.ref Dn) ∧ m (PySem.Str.ofString "rights") = some (.ref Dr) ∧ m (PySem.Str.ofString "kinds") = some (.ref Dk))
                  rfl lF6 lN7 ⟨rfl, ⟨_, told_is rfl⟩, rfl, rfl, rfl, rfl⟩ ?_ ?_
                · intro j c u m₂ news₂ h₂ tk₂ own₂ hj hJ₂ hsep₂ F₂ N₂
                  obtain ⟨rfl, ⟨tp₂, hmp₂⟩, g1, g2, g3, g4⟩ := hJ₂
                  replace F₂ := fr_known_x [(PySem.Str.ofString "path", _), (PySem.Str.ofString "sorts", _), (PySem.Str.ofString "names", _), (PySem.Str.ofString "rights", _), (PySem.Str.ofString "kinds", _)] F₂ (all5 hmp₂ g1 g2 g3 g4)
                  dsimp only [kstB] at F₂
                  have hmid := path_len_mid (drawsOf xs) i j (by omega) rest (by omega)
                  iterate 10 walk1
                  refine And.intro (Frag.In.keeps X' F₂.keep) ?_
                  k_dflt (refine' Cl.use (law_run _ _ _ _ _ _ _ _) ?k1 ?k2 ?k3 ?k4 ?k5 ?kK ?kp ?kd ?ku ?_)
                  walk_at "my close"
                  case kp => omega
                  k_whole
                  intro t9 h9 tk9 F9 N9
                  (try dsimp only)
                  (try k_fold)
                  iterate 2 walk1
                  refine ⟨_, _, _, news₂, rfl, (by k_asm), (by k_asm), hsep₂, rfl, ⟨_, told_is ?_⟩, rfl, rfl, rfl, rfl⟩
                  rw [List.take_add_one, hj, List.foldl_append]; rfl
                · intro m₂ news₂ h₂ tk₂ hJ₂ F₂ N₂
                  obtain ⟨rfl, ⟨tp₂, hmp₂⟩, g1, g2, g3, g4⟩ := hJ₂
                  subst hNI
                  rw [List.take_length, hpn] at hmp₂
                  iterate 1 walk1
                  refine ⟨_, _, _, _, rfl, F₂, ?_, hsep, rfl, ⟨_, hmp₂⟩, g1, g2, g3, g4⟩
                  exact N₂
              · iterate 7 walk1
                refine item_at (i := 0) (c := kindC d) rfl rfl (by decide) ?_
                intro _ _
                iterate 1 walk1
                refine eq1 (k := 112) (by decide +kernel) ?_
                iterate 2 walk1
                · iterate 15 walk1
                  obtain ⟨c, r, hcr, hc⟩ := joinL_head (parts_gd (drawsOf xs) i)
                  have e : (if (pathOf (parts (drawsOf xs) i)).getLast? = some 47 then pathOf (parts (drawsOf xs) i) ++ [46, 46] else pathOf (parts (drawsOf xs) i) ++ [47] ++ [46, 46]) = 47 :: c :: r := (join_path (parts_gd (drawsOf xs) i) [46, 46]).trans (by rw [hcr])
                  (rename Fr _ _ _ _ => lFx)
                  refine And.intro (Frag.In.keeps X' lFx.keep) ?_
                  k_dflt (refine' Cl.use (c_join_to _ _ _ _ (la := pathOf (parts (drawsOf xs) i)) (lb := [46, 46]) rfl (by decide +kernel) e _ _) ?k1 ?k2 ?k3 ?k4 ?k5 ?kK ?kp ?kd ?ku ?_)
                  walk_at "my close"
                  case kp => exact ⟨by simp [pathOf], by decide, by omega, by decide⟩
                  k_whole
                  intro t9 h9 tk9 F9 N9
                  (try dsimp only)
                  (try k_fold)
                  iterate 1 walk1
                  refine And.intro (Frag.In.keeps X' F9.keep) ?_
                  have hcl := congrArg List.length hcr
                  have hcl2 := joinL_len_le 740 ((parts (drawsOf xs) i).map textOf ++ [[46, 46]]) (texts_len (drawsOf xs) i (by omega))
                  have hcl3 := (parts_len (drawsOf xs) i (by omega)).1
                  simp only [List.length_append, List.length_map, List.length_cons, List.length_nil] at hcl hcl2
                  k_dflt (refine' Cl.use (c_normpath _ _ _ _ c r ((parts (drawsOf xs) i).map textOf) _) ?k1 ?k2 ?k3 ?k4 ?k5 ?kK ?kp ?kd ?ku ?_)
                  walk_at "my close"
                  case kp => exact ⟨hc, hcr, gd_norm (parts_gd _ _), by omega, by rw [List.length_map]; omega⟩
                  k_whole
                  intro t9 h9 tk9 F9 N9
                  (try dsimp only)
                  (try k_fold)
                  rw [← path_moved_l _ _ (Or.inr (by rw [hgd]; assumption))]
                  walk_at "my for"
                  (rename Fr _ _ _ _ => lF4)
                  with_unfolding_all refine For_invVF lF4 rfl rfl ?_
                  iterate 7 walk1
                  (rename Fr _ _ _ _ => lF5)
                  (rename News _ _ _ _ => lN5)
                  refine sl_sn (s := ⟨_, _, _, _, _⟩) cut_from1 lF5 lN5 ?_ (hsz := by rw [mk_len, PySem.sizeLine_eq, List.length_cons]; omega)
                  intro _ _ _ lF6 lN6
                  obtain ⟨NI, hNI, lN7⟩ := news_name lN6
                  refine iter_str (fun j m nx => nx = NI ∧ (∃ t, m (PySem.Str.ofString "path") = some (.str (mk ((rest.take j).foldl (fun l c => runL c l) (pathOf (moved (drawsOf xs) i)))) t)) ∧ m (PySem.Str.ofString "sorts") = some (.ref aS) ∧ m (PySem.Str.ofString "names") = some (.ref Dn) ∧ m (PySem.Str.ofString "rights") = some (.ref Dr) ∧ m (PySem.Str.ofString "kinds") = some (.ref Dk))
                    rfl lF6 lN7 ⟨rfl, ⟨_, told_is rfl⟩, rfl, rfl, rfl, rfl⟩ ?_ ?_
                  · intro j c u m₂ news₂ h₂ tk₂ own₂ hj hJ₂ hsep₂ F₂ N₂
                    obtain ⟨rfl, ⟨tp₂, hmp₂⟩, g1, g2, g3, g4⟩ := hJ₂
                    replace F₂ := fr_known_x [(PySem.Str.ofString "path", _), (PySem.Str.ofString "sorts", _), (PySem.Str.ofString "names", _), (PySem.Str.ofString "rights", _), (PySem.Str.ofString "kinds", _)] F₂ (all5 hmp₂ g1 g2 g3 g4)
                    dsimp only [kstB] at F₂
                    have hmid := path_len_mid (drawsOf xs) i j (by omega) rest (by omega)
                    iterate 10 walk1
                    refine And.intro (Frag.In.keeps X' F₂.keep) ?_
                    k_dflt (refine' Cl.use (law_run _ _ _ _ _ _ _ _) ?k1 ?k2 ?k3 ?k4 ?k5 ?kK ?kp ?kd ?ku ?_)
                    walk_at "my close"
                    case kp => omega
                    k_whole
                    intro t9 h9 tk9 F9 N9
                    (try dsimp only)
                    (try k_fold)
                    iterate 2 walk1
                    refine ⟨_, _, _, news₂, rfl, (by k_asm), (by k_asm), hsep₂, rfl, ⟨_, told_is ?_⟩, rfl, rfl, rfl, rfl⟩
                    rw [List.take_add_one, hj, List.foldl_append]; rfl
                  · intro m₂ news₂ h₂ tk₂ hJ₂ F₂ N₂
                    obtain ⟨rfl, ⟨tp₂, hmp₂⟩, g1, g2, g3, g4⟩ := hJ₂
                    subst hNI
                    rw [List.take_length, hpn] at hmp₂
                    iterate 1 walk1
                    refine ⟨_, _, _, _, rfl, F₂, ?_, hsep, rfl, ⟨_, hmp₂⟩, g1, g2, g3, g4⟩
                    exact N₂
                · iterate 7 walk1
                  refine item_at (i := 0) (c := kindC d) rfl rfl (by decide) ?_
                  intro _ _
                  iterate 1 walk1
                  refine eq1 (k := 98) (by decide +kernel) ?_
                  iterate 2 walk1
                  · iterate 15 walk1
                    obtain ⟨pre, last, e1, e2, e3, e4, e5⟩ := split_path (parts_gd (drawsOf xs) i)
                    (rename Fr _ _ _ _ => lFx)
                    refine And.intro (Frag.In.keeps X' lFx.keep) ?_
                    k_dflt (refine' Cl.use (c_basename _ _ _ _ _ pre last _) ?k1 ?k2 ?k3 ?k4 ?k5 ?kK ?kp ?kd ?ku ?_)
                    walk_at "my close"
                    case kp => exact ⟨e1, e2, by omega⟩
                    k_whole
                    intro t9 h9 tk9 F9 N9
                    (try dsimp only)
                    (try k_fold)
                    iterate 1 walk1
                    refine And.intro (Frag.In.keeps X' F9.keep) ?_
                    k_dflt (refine' Cl.use (c_join_to _ _ _ _ (la := [47]) (lb := last) (out := 47 :: last) (by decide +kernel) rfl rfl _ _) ?k1 ?k2 ?k3 ?k4 ?k5 ?kK ?kp ?kd ?ku ?_)
                    walk_at "my close"
                    case kp => exact ⟨by decide, no_head e2, by decide, by have := congrArg List.length e1; simp only [pathOf, List.length_cons, List.length_append] at hpl this; omega⟩
                    k_whole
                    intro t9 h9 tk9 F9 N9
                    (try dsimp only)
                    (try k_fold)
                    rw [e5, ← path_moved_b _ _ (by rw [hgd]; assumption)]
                    walk_at "my for"
                    (rename Fr _ _ _ _ => lF4)
                    with_unfolding_all refine For_invVF lF4 rfl rfl ?_
                    iterate 7 walk1
                    (rename Fr _ _ _ _ => lF5)
                    (rename News _ _ _ _ => lN5)
                    refine sl_sn (s := ⟨_, _, _, _, _⟩) cut_from1 lF5 lN5 ?_ (hsz := by rw [mk_len, PySem.sizeLine_eq, List.length_cons]; omega)
                    intro _ _ _ lF6 lN6
                    obtain ⟨NI, hNI, lN7⟩ := news_name lN6
                    refine iter_str (fun j m nx => nx = NI ∧ (∃ t, m (PySem.Str.ofString "path") = some (.str (mk ((rest.take j).foldl (fun l c => runL c l) (pathOf (moved (drawsOf xs) i)))) t)) ∧ m (PySem.Str.ofString "sorts") = some (.ref aS) ∧ m (PySem.Str.ofString "names") = some (.ref Dn) ∧ m (PySem.Str.ofString "rights") = some (.ref Dr) ∧ m (PySem.Str.ofString "kinds") = some (.ref Dk))
                      rfl lF6 lN7 ⟨rfl, ⟨_, told_is rfl⟩, rfl, rfl, rfl, rfl⟩ ?_ ?_
                    · intro j c u m₂ news₂ h₂ tk₂ own₂ hj hJ₂ hsep₂ F₂ N₂
                      obtain ⟨rfl, ⟨tp₂, hmp₂⟩, g1, g2, g3, g4⟩ := hJ₂
                      replace F₂ := fr_known_x [(PySem.Str.ofString "path", _), (PySem.Str.ofString "sorts", _), (PySem.Str.ofString "names", _), (PySem.Str.ofString "rights", _), (PySem.Str.ofString "kinds", _)] F₂ (all5 hmp₂ g1 g2 g3 g4)
                      dsimp only [kstB] at F₂
                      have hmid := path_len_mid (drawsOf xs) i j (by omega) rest (by omega)
                      iterate 10 walk1
                      refine And.intro (Frag.In.keeps X' F₂.keep) ?_
                      k_dflt (refine' Cl.use (law_run _ _ _ _ _ _ _ _) ?k1 ?k2 ?k3 ?k4 ?k5 ?kK ?kp ?kd ?ku ?_)
                      walk_at "my close"
                      case kp => omega
                      k_whole
                      intro t9 h9 tk9 F9 N9
                      (try dsimp only)
                      (try k_fold)
                      iterate 2 walk1
                      refine ⟨_, _, _, news₂, rfl, (by k_asm), (by k_asm), hsep₂, rfl, ⟨_, told_is ?_⟩, rfl, rfl, rfl, rfl⟩
                      rw [List.take_add_one, hj, List.foldl_append]; rfl
                    · intro m₂ news₂ h₂ tk₂ hJ₂ F₂ N₂
                      obtain ⟨rfl, ⟨tp₂, hmp₂⟩, g1, g2, g3, g4⟩ := hJ₂
                      subst hNI
                      rw [List.take_length, hpn] at hmp₂
                      iterate 1 walk1
                      refine ⟨_, _, _, _, rfl, F₂, ?_, hsep, rfl, ⟨_, hmp₂⟩, g1, g2, g3, g4⟩
                      exact N₂
                  · rw [show pathOf (parts (drawsOf xs) i) = pathOf (moved (drawsOf xs) i) by rw [moved_n _ _ (by rw [hgd]; assumption) (by rw [hgd]; assumption) (by rw [hgd]; assumption) (by rw [hgd]; assumption)]] at *
                    walk_at "my for"
                    (rename Fr _ _ _ _ => lF4)
                    with_unfolding_all refine For_invVF lF4 rfl rfl ?_
                    iterate 7 walk1
                    (rename Fr _ _ _ _ => lF5)
                    (rename News _ _ _ _ => lN5)
                    refine sl_sn (s := ⟨_, _, _, _, _⟩) cut_from1 lF5 lN5 ?_ (hsz := by rw [mk_len, PySem.sizeLine_eq, List.length_cons]; omega)
                    intro _ _ _ lF6 lN6
                    obtain ⟨NI, hNI, lN7⟩ := news_name lN6
                    refine iter_str (fun j m nx => nx = NI ∧ (∃ t, m (PySem.Str.ofString "path") = some (.str (mk ((rest.take j).foldl (fun l c => runL c l) (pathOf (moved (drawsOf xs) i)))) t)) ∧ m (PySem.Str.ofString "sorts") = some (.ref aS) ∧ m (PySem.Str.ofString "names") = some (.ref Dn) ∧ m (PySem.Str.ofString "rights") = some (.ref Dr) ∧ m (PySem.Str.ofString "kinds") = some (.ref Dk))
                      rfl lF6 lN7 ⟨rfl, ⟨_, told_is rfl⟩, rfl, rfl, rfl, rfl⟩ ?_ ?_
                    · intro j c u m₂ news₂ h₂ tk₂ own₂ hj hJ₂ hsep₂ F₂ N₂
                      obtain ⟨rfl, ⟨tp₂, hmp₂⟩, g1, g2, g3, g4⟩ := hJ₂
                      replace F₂ := fr_known_x [(PySem.Str.ofString "path", _), (PySem.Str.ofString "sorts", _), (PySem.Str.ofString "names", _), (PySem.Str.ofString "rights", _), (PySem.Str.ofString "kinds", _)] F₂ (all5 hmp₂ g1 g2 g3 g4)
                      dsimp only [kstB] at F₂
                      have hmid := path_len_mid (drawsOf xs) i j (by omega) rest (by omega)
                      iterate 10 walk1
                      refine And.intro (Frag.In.keeps X' F₂.keep) ?_
                      k_dflt (refine' Cl.use (law_run _ _ _ _ _ _ _ _) ?k1 ?k2 ?k3 ?k4 ?k5 ?kK ?kp ?kd ?ku ?_)
                      walk_at "my close"
                      case kp => omega
                      k_whole
                      intro t9 h9 tk9 F9 N9
                      (try dsimp only)
                      (try k_fold)
                      iterate 2 walk1
                      refine ⟨_, _, _, news₂, rfl, (by k_asm), (by k_asm), hsep₂, rfl, ⟨_, told_is ?_⟩, rfl, rfl, rfl, rfl⟩
                      rw [List.take_add_one, hj, List.foldl_append]; rfl
                    · intro m₂ news₂ h₂ tk₂ hJ₂ F₂ N₂
                      obtain ⟨rfl, ⟨tp₂, hmp₂⟩, g1, g2, g3, g4⟩ := hJ₂
                      subst hNI
                      rw [List.take_length, hpn] at hmp₂
                      iterate 1 walk1
                      refine ⟨_, _, _, _, rfl, F₂, ?_, hsep, rfl, ⟨_, hmp₂⟩, g1, g2, g3, g4⟩
                      exact N₂
          · intro m₁ news₁ h tk hJ F₁ N₁
            obtain ⟨rfl, ⟨tp, hmp⟩, h1, h2, h3, h4⟩ := hJ
            replace F₁ := fr_known [(PySem.Str.ofString "path", _), (PySem.Str.ofString "names", _), (PySem.Str.ofString "rights", _), (PySem.Str.ofString "kinds", _)] F₁ (all4 hmp h2 h3 h4)
            dsimp only [kstB] at F₁
            subst hNW
            clear lN3 lN2 lF2 hR
            walk_at "my for"
            (rename Fr _ _ _ _ => lG)
            with_unfolding_all refine For_invVF lG rfl rfl ?_
            iterate 11 walk1
            refine len_of (by k_asm) (by k_mem) hdv hl10 ?_
            intro _ _
            walk_at "my iter"
            (rename Fr _ _ _ _ => lG2)
            (rename News _ _ _ _ => lM2)
            (rename IsRange _ _ _ _ _ _ _ _ => hR)
            obtain ⟨d0, o0, tl, ho, htl, lM3⟩ := news_split lM2
            obtain ⟨rfl, rfl⟩ := Prod.mk.inj ho
            have hne0 : ∀ q ∈ tl, q.1 ≠ d0 := by
              subst htl
              (rename _ < d0 ∧ _ => hltd)
              intro q hq
              simp only [List.mem_cons, List.not_mem_nil, or_false] at hq
              rcases hq with rfl | rfl | rfl | rfl | rfl | rfl | rfl | rfl | rfl <;> (dsimp only; exact Nat.ne_of_lt (by omega))
            have hn0 : 2 ≤ (drawsOf xs).length := by rw [drawsOf]; simp
            refine iter_down_b (n := (drawsOf xs).length) (fun i m nx => ∃ d vs ep st al th, nx = (d, W.listOf vs.toArray ep) :: tl ∧ Vals intV vs th ∧ Scan (drawsOf xs) ((drawsOf xs).length - i) st al th ∧ th.length ≤ i ∧ st ≤ i ∧ (∀ q ∈ tl, q.1 ≠ d) ∧ m (PySem.Str.ofString "there") = some (.ref d) ∧ (∃ t, m (PySem.Str.ofString "still") = some (.int (st : Int) t)) ∧ m (PySem.Str.ofString "alone") = some (.bool al) ∧
                (∃ t, m (PySem.Str.ofString "path") = some (.str (mk (pathOf (parts (drawsOf xs) (drawsOf xs).length))) t)) ∧ m (PySem.Str.ofString "names") = some (.ref Dn) ∧ m (PySem.Str.ofString "rights") = some (.ref Dr) ∧ m (PySem.Str.ofString "kinds") = some (.ref Dk))
              (fun m nx => ∃ d vs ep, nx = (d, W.listOf vs.toArray ep) :: tl ∧ Vals intV vs (stk (drawsOf xs) (drawsOf xs).length) ∧ (∀ q ∈ tl, q.1 ≠ d) ∧ m (PySem.Str.ofString "there") = some (.ref d) ∧
                (∃ t, m (PySem.Str.ofString "path") = some (.str (mk (pathOf (parts (drawsOf xs) (drawsOf xs).length))) t)) ∧ m (PySem.Str.ofString "names") = some (.ref Dn) ∧ m (PySem.Str.ofString "rights") = some (.ref Dr))
              rfl hR (small_down (by omega)) (size_down _) lG2 lM3 ⟨d0, [], 0, 0, false, [], rfl, .nil, Scan.start _, Nat.le_refl _, Nat.le_refl _, hne0, rfl, ⟨_, rfl⟩, rfl, ⟨_, rfl⟩, rfl, rfl, rfl⟩ ?_ ?_ ?_
            · rintro m nx ⟨d, vs, ep, st, al, th, rfl, hv, hsc, _, _, hne, g1, _, _, g4, g5, g6, _⟩
              rw [Nat.sub_self] at hsc
              rw [hsc.fin] at hv
              exact ⟨d, vs, ep, rfl, hv, hne, g1, g4, g5, g6⟩
            · intro i tk₀ m₁ news₁ h tk own hi hJ hsep F₁ N₁
              obtain ⟨d, vs, ep, st, al, th, rfl, hv, hsc, hth, hst, hne, g1, ⟨tst, g2⟩, g3, ⟨tpp, g4⟩, g5, g6, g7⟩ := hJ
              rw [show ((drawsOf xs).length : Int) - 1 + (i : Int) * -1 = (((drawsOf xs).length - 1 - i : Nat) : Int) by omega] at F₁
              replace F₁ := fr_known_x [(PySem.Str.ofString "there", _), (PySem.Str.ofString "still", _), (PySem.Str.ofString "alone", _), (PySem.Str.ofString "path", _), (PySem.Str.ofString "names", _), (PySem.Str.ofString "rights", _), (PySem.Str.ofString "kinds", _)] F₁ (all7 g1 g2 g3 g4 g5 g6 g7)
              dsimp only [kstB] at F₁
              subst htl
              simp only [List.cons_append, List.nil_append] at N₁
              have hK : (drawsOf xs).length - i = (drawsOf xs).length - 1 - i + 1 := by omega
              rw [hK] at hsc
              have hKl : (drawsOf xs).length - 1 - i < (drawsOf xs).length := by omega
              generalize hKe : (drawsOf xs).length - 1 - i = K at *
              have hd : (drawsOf xs)[K]? = some (drawsOf xs)[K] := List.getElem?_eq_getElem hKl
              have hgd : (drawsOf xs).getD K 0 = (drawsOf xs)[K] := by rw [List.getD, hd]; rfl
              have hki : ((drawsOf xs).mapIdx fun _ d => [kindC d])[K]? = some [kindC ((drawsOf xs).getD K 0)] := by rw [List.getElem?_mapIdx, hd, hgd]; rfl
              generalize hc0 : kindC ((drawsOf xs).getD K 0) = kc at *
              have hK2 : K = (drawsOf xs).length - (i + 1) := by omega
              iterate 7 walk1
              refine item_strs (by k_asm) (by k_mem) hkv rfl hki (by simp; omega) ?_
              intro _
              iterate 1 walk1
              refine eq1 (k := 108) (by decide +kernel) ?_
              iterate 2 walk1
              · k_steps
                refine ⟨_, _, _, _, rfl, (by k_asm), ?_, hsep, d, vs, ep, st + 1, al, th, rfl, hv, hK2 ▸ hsc.pop (Or.inl (hc0.trans (by assumption))), by omega, by omega, hne, rfl, ⟨_, int_is (Int.natCast_succ st).symm⟩, rfl, ⟨_, rfl⟩, rfl, rfl, rfl⟩
                all_goals ((rename News _ _ _ _ => lNz); exact lNz)
              · walk_at "my sub"
                refine item_strs (by k_asm) (by k_mem) hkv rfl hki (by simp; omega) ?_
                intro _
                iterate 1 walk1
                refine eq1 (k := 112) (by decide +kernel) ?_
                iterate 2 walk1
                · k_steps
                  refine ⟨_, _, _, _, rfl, (by k_asm), ?_, hsep, d, vs, ep, st + 1, al, th, rfl, hv, hK2 ▸ hsc.pop (Or.inr (hc0.trans (by assumption))), by omega, by omega, hne, rfl, ⟨_, int_is (Int.natCast_succ st).symm⟩, rfl, ⟨_, rfl⟩, rfl, rfl, rfl⟩
                  all_goals ((rename News _ _ _ _ => lNz); exact lNz)
                · walk_at "my sub"
                  refine item_strs (by k_asm) (by k_mem) hkv rfl hki (by simp; omega) ?_
                  intro _
                  iterate 1 walk1
                  refine eq1 (k := 98) (by decide +kernel) ?_
                  iterate 2 walk1
                  · k_steps
                    · (try dsimp only)
                      have hv2 := hv
                      rw [hsc.b_stop (hc0.trans (by assumption)) (by omega)] at hv2
                      refine ⟨_, _, _, _, rfl, (by k_asm), ?_, hsep, d, vs, ep, rfl, hv2, hne, rfl, ⟨_, rfl⟩, rfl, rfl⟩
                      all_goals ((rename News _ _ _ _ => lNz); exact lNz)
                    · obtain rfl : st = 0 := by omega
                      refine ⟨_, _, _, _, rfl, (by k_asm), ?_, hsep, d, vs, ep, 0, true, th, rfl, hv, hK2 ▸ hsc.b_alone (hc0.trans (by assumption)), by omega, by omega, hne, rfl, ⟨_, rfl⟩, rfl, ⟨_, rfl⟩, rfl, rfl, rfl⟩
                      all_goals ((rename News _ _ _ _ => lNz); exact lNz)
                  · walk_at "my sub"
                    refine item_strs (by k_asm) (by k_mem) hkv rfl hki (by simp; omega) ?_
                    intro _
                    iterate 1 walk1
                    refine eq1 (k := 100) (by decide +kernel) ?_
                    iterate 2 walk1
                    · iterate 9 walk1
                      · have hst0 : 0 < st := by first | omega | (have h9 := of_decide_eq_true (by assumption : decide (0 < (st : Int)) = true); omega) | exact st_pos (by assumption)
                        k_steps
                        refine ⟨_, _, _, _, rfl, (by k_asm), ?_, hsep, d, vs, ep, st - 1, al, th, rfl, hv, hK2 ▸ hsc.d_pos (hc0.trans (by assumption)) hst0, by omega, by omega, hne, rfl, ⟨_, int_is (show (st : Int) - 1 = ((st - 1 : Nat) : Int) by omega)⟩, rfl, ⟨_, rfl⟩, rfl, rfl, rfl⟩
                        all_goals ((rename News _ _ _ _ => lNz); exact lNz)
                      · obtain rfl : st = 0 := by omega
                        walk_at "my bin"
                        (rename Fr _ _ _ _ => lA)
                        (rename News _ _ _ _ => lNA)
                        refine add_lists lA lNA (news_list lNA (by k_mem) rfl rfl) (news_list lNA (by k_mem) rfl rfl) ?_ (by rw [PySem.sizeLine_eq, hv.1]; simp; omega)
                        intro h' lB lNB
                        have hsep2 := sep_cons hsep lNA
                        have hne2 := ne_cons hsep lNA
                        obtain ⟨vs2, ep2, hv2, lNC⟩ := head_vals (news_drop2 lNB) (Vals.append (.cons K _ .nil) hv)
                        clear lNB lNA lA
                        cases al
                        · k_steps
                          refine ⟨_, _, _, _, rfl, (by k_asm), ?_, hsep2 _, _, vs2, ep2, 0, false, [K] ++ th, rfl, hv2, hK2 ▸ hsc.d_zero (hc0.trans (by assumption)), by simp; omega, by omega, hne2, rfl, ⟨_, rfl⟩, rfl, ⟨_, rfl⟩, rfl, rfl, rfl⟩
                          all_goals ((rename News _ _ _ _ => lNz); exact lNz)
                        · k_steps
                          (try dsimp only)
                          have hv3 := hv2
                          rw [hsc.d_alone (hc0.trans (by assumption))] at hv3
                          refine ⟨_, _, _, _, rfl, (by k_asm), ?_, hsep2 _, _, vs2, ep2, rfl, hv3, hne2, rfl, ⟨_, rfl⟩, rfl, rfl⟩
                          all_goals ((rename News _ _ _ _ => lNz); exact lNz)
                    · k_steps
                      refine ⟨_, _, _, _, rfl, (by k_asm), ?_, hsep, d, vs, ep, st, al, th, rfl, hv, hK2 ▸ hsc.other (by rw [hc0]; assumption) (by rw [hc0]; assumption) (by rw [hc0]; assumption) (by rw [hc0]; assumption), by omega, by omega, hne, rfl, ⟨_, rfl⟩, rfl, ⟨_, rfl⟩, rfl, rfl, rfl⟩
                      all_goals ((rename News _ _ _ _ => lNz); exact lNz)
            · rintro m₁ news₁ h tk ⟨d, vs, ep, rfl, hv, hne, g1, ⟨tpp, g4⟩, g5, g6⟩ F₁ N₁
              replace F₁ := fr_known [(PySem.Str.ofString "there", _), (PySem.Str.ofString "path", _), (PySem.Str.ofString "names", _), (PySem.Str.ofString "rights", _)] F₁ (all4 g1 g4 g5 g6)
              dsimp only [kstB] at F₁
              subst htl
              walk_at "my for"
              (rename Fr _ _ _ _ => lG)
              with_unfolding_all refine For_invVF lG rfl rfl ?_
              walk_at "my iter"
              (rename Fr _ _ _ _ => lG2)
              (rename News _ _ _ _ => lM2)
              obtain ⟨cL, oL, hcL, hoL⟩ := cell_addr lM2
              obtain ⟨d1, o1, tl1, ho1, htl1, lM3⟩ := news_split lM2
              obtain ⟨rfl, rfl⟩ := Prod.mk.inj ho1
              have hoc : ∃ v, oL.data = .cell v := by subst hoL; exact ⟨_, by assumption⟩
              (rename d < d1 ∧ _ => hlt1)
              (rename LCg.Off1 Dn _ => hoffn)
              (rename LCg.Off1 Dr _ => hoffr)
              have hx1 : d1 ≠ cL := by rw [hcL]; exact Nat.ne_of_gt (by omega)
              have hx2 : Dn ≠ cL := by subst hcL; exact Ne.symm (off1_mem hoffn (_, _) (by k_mem))
              have hx3 : Dr ≠ cL := by subst hcL; exact Ne.symm (off1_mem hoffr (_, _) (by k_mem))
              have hx4 : Dn ≠ d1 := Nat.ne_of_lt (by omega)
              have hx5 : Dr ≠ d1 := Nat.ne_of_lt (by omega)
              refine iter_list (vs := vs) (nw := [(cL, oL), (d1, W.listOf [].toArray 0), (Dn, W.listOf nvs.toArray nep), (Dr, W.listOf rvs.toArray rep)]) (fun i m nx => ∃ ws n ob, nx = [(cL, ob), (d1, W.listOf ws.toArray n), (Dn, W.listOf nvs.toArray nep), (Dr, W.listOf rvs.toArray rep)] ∧ Texts ws (((stk (drawsOf xs) (drawsOf xs).length).take i).map fun k => textOf (part (drawsOf xs) (drawsOf xs).length k)) ∧ (∃ v, ob.data = .cell v) ∧ m (PySem.Str.ofString "due") = some (.ref d1) ∧
                (∃ t, m (PySem.Str.ofString "path") = some (.str (mk (pathOf (parts (drawsOf xs) (drawsOf xs).length))) t)) ∧ m (PySem.Str.ofString "names") = some (.ref Dn) ∧ m (PySem.Str.ofString "rights") = some (.ref Dr))
                rfl lG2 lM2 (List.mem_cons_of_mem _ (List.mem_cons_self ..)) rfl rfl ?_ ⟨[], 0, oL, rfl, .nil, hoc, rfl, ⟨_, rfl⟩, rfl, rfl⟩ ?_ ?_
              · intro q hq
                subst hcL hoL
                simp only [List.mem_cons, List.not_mem_nil, or_false] at hq
                rcases hq with rfl | rfl | rfl | rfl
                · exact ⟨by k_mem, hne _ (by k_mem)⟩
                · exact ⟨List.mem_cons_self .., Nat.ne_of_gt hlt1.1⟩
                · exact ⟨by k_mem, hne _ (by k_mem)⟩
                · exact ⟨by k_mem, hne _ (by k_mem)⟩
              · intro i v m₁ news₁ h tk own hi hJ hsep F₁ N₁
                obtain ⟨ws, n, ob, rfl, htx, hoc, g1, ⟨tpp, g4⟩, g5, g6⟩ := hJ
                replace F₁ := fr_known_x [(PySem.Str.ofString "due", _), (PySem.Str.ofString "path", _), (PySem.Str.ofString "names", _), (PySem.Str.ofString "rights", _)] F₁ (all4 g1 g4 g5 g6)
                dsimp only [kstB] at F₁
                obtain ⟨k, tk₁, hk, hve⟩ := hv.2 i v hi
                replace hve : v = .int (k : Int) tk₁ := hve
                subst hve
                simp only [List.cons_append, List.nil_append] at N₁
                have hox1 := off3 (own := own) (a := (d1, W.listOf ws.toArray n)) (b := (Dn, W.listOf nvs.toArray nep)) (d := (Dr, W.listOf rvs.toArray rep)) hx1 hx2 hx3 (fun p hp => hsep p hp (cL, ob) (List.mem_cons_self ..))
                have hox2 := fun o => off3 (own := own) (a := (cL, o)) (b := (Dn, W.listOf nvs.toArray nep)) (d := (Dr, W.listOf rvs.toArray rep)) (Ne.symm hx1) hx4 hx5 (fun p hp => hsep p hp (d1, W.listOf ws.toArray n) (List.mem_cons_of_mem _ (List.mem_cons_self ..)))
                have hsep' : ∀ o o', ∀ p ∈ own, ∀ q ∈ [(cL, o), (d1, o'), (Dn, W.listOf nvs.toArray nep), (Dr, W.listOf rvs.toArray rep)], p.1 ≠ q.1 := by
                  intro o o' p hp q hq
                  rcases List.mem_cons.mp hq with rfl | hq
                  · exact hsep p hp (cL, ob) (List.mem_cons_self ..)
                  rcases List.mem_cons.mp hq with rfl | hq
                  · exact hsep p hp (d1, W.listOf ws.toArray n) (List.mem_cons_of_mem _ (List.mem_cons_self ..))
                  · exact hsep p hp q (List.mem_cons_of_mem _ (List.mem_cons_of_mem _ hq))
                obtain ⟨vob, hob⟩ := hoc
                have hklt : k < (drawsOf xs).length := stk_lt _ _ _ (List.mem_of_getElem? hk)
                have hrl := runs_len (drawsOf xs) k hlen
                have hd : (drawsOf xs)[k]? = some (drawsOf xs)[k] := List.getElem?_eq_getElem hklt
                have hgd : (drawsOf xs).getD k 0 = (drawsOf xs)[k] := by rw [List.getD, hd]; rfl
                have hni : ((drawsOf xs).mapIdx nameL)[k]? = some (nameL k ((drawsOf xs).getD k 0)) := by rw [List.getElem?_mapIdx, hd, hgd]; rfl
                walk_at "my lc"
                clear lM3 lM2 lG2
                k_dflt (refine lc_eval (by k_asm) (by rfl) (by decide) (by rfl) (by decide) (by rfl) ?_)
                walk_at "my sub"
                refine slice_vals (s := ⟨_, _, _, _, _⟩) (by k_asm) (by k_asm) (by k_mem) hrv rfl (by simp; omega) ?_
                intro Ds wsr h3 F₃ N₃ l3 hwr
                k_dflt (refine src_ledger (fun i y => ∃ r t, (((drawsOf xs).mapIdx fun _ d => rightN d).drop k)[i]? = some r ∧ y = strV (lettersL r) t) rfl (by k_asm) (by k_asm) (by k_mem) (by rw [PySem.sizeLine_eq, hwr.1]; simp; omega) ?_ ?_)
                · intro g j v hv'
                  obtain ⟨r, tr, hr, hve⟩ := hwr.2 j v hv'
                  replace hve : v = .int (r : Int) tr := hve
                  subst hve
                  intro I oI C oC D oD m₂ h5 tk5 E' hC hxv F₂ N₂ off ne
                  walk_at "my call"
                  (rename Frag.In _ _ => X')
                  refine And.intro (Frag.In.keeps X' F₂.keep) ?_
                  k_dflt (refine' Cl.use (c_letters _ _ _ _ _ _) ?k1 ?k2 ?k3 ?k4 ?k5 ?kK ?kp ?kd ?ku ?_)
                  walk_at "my close"
                  case kp => exact rights_ok hr
                  k_whole
                  intro t9 h9 tk9 F9 N9
                  (try dsimp only)
                  (try k_fold)
                  exact ⟨_, _, rfl, (by k_asm), (by k_asm), r, _, hr, rfl⟩
                · intro g ys hyl hys
                  have hV := map_vals (fun _ r => lettersL r) hwr.1 hyl hys
                  rw [runs_eq] at hV
                  clear hys hyl
                  intro Dl h4 tk4 F₄ N₄ off4
                  obtain ⟨lvs, lep, hlv, N₅⟩ := head_vals N₄ hV
                  clear N₄ hV
                  walk_at "my call"
                  refine cat_head (by decide +kernel) N₅ hlv.texts (by omega) ?_
                  intro _ _
                  have N₆ := news_drop1 (news_drop1 N₅)
                  clear N₅ N₃
                  walk_at "my store"
                  subst hcL
                  k_dflt (refine storeX_C (by k_asm) N₆ (by rfl) (UpdF.head hox1) hob ?_ (by rfl) (by rfl))
                  intro h6 o6 F₆ N₇ d6
                  clear N₆
                  walk_at "my lc"
                  k_dflt (refine lc_signs (by k_asm) (by rfl) (by decide) (by rfl) (by decide) (by rfl) ?_)
                  walk_at "my sub"
                  refine item_strs (by k_asm) (by k_mem) hnv rfl hni (by simp; omega) ?_
                  intro _
                  k_dflt (refine src_signs (l := nameL k ((drawsOf xs).getD k 0)) (fun i y => ∃ c t, (nameL k ((drawsOf xs).getD k 0))[i]? = some c ∧ y = strV (toldL c (runsL (drawsOf xs) k).flatten) t) rfl (by k_asm) (by k_asm) (by rw [PySem.sizeLine_eq]; simp [nameL]) ?_ ?_)
                  · intro g j c u hc I oI C oC D oD m₂ h5 tk5 E' hC hxv F₂ N₂ off ne
                    walk_at "my call"
                    (rename Frag.In _ _ => X')
                    refine And.intro (Frag.In.keeps X' F₂.keep) ?_
                    k_dflt (refine' Cl.use (c_told _ _ _ _ _ _ _ _) ?k1 ?k2 ?k3 ?k4 ?k5 ?kK ?kp ?kd ?ku ?_)
                    walk_at "my close"
                    case kp => omega
                    k_whole
                    intro t9 h9 tk9 F9 N9
                    (try dsimp only)
                    (try k_fold)
                    exact ⟨_, _, rfl, (by k_asm), (by k_asm), c, _, hc, rfl⟩
                  · intro g ys hyl hys
                    have hV := map_vals (as := nameL k ((drawsOf xs).getD k 0)) (fun _ c => toldL c (runsL (drawsOf xs) k).flatten) rfl hyl hys
                    rw [mapIdx_const] at hV
                    clear hys hyl
                    intro Dl2 h7 tk7 F₇ N₈ off7
                    obtain ⟨tvs, tep, htv, N₉⟩ := head_vals N₈ hV
                    clear N₈ hV
                    walk_at "my call"
                    refine cat_head (by decide +kernel) N₉ htv.texts (Nat.le_trans (told_sum _ _ _ hrl.2) (by decide)) ?_
                    intro tv _
                    rw [show ((nameL k ((drawsOf xs).getD k 0)).map fun c => toldL c (runsL (drawsOf xs) k).flatten).flatten = textOf (part (drawsOf xs) (drawsOf xs).length k) from due_text (drawsOf xs) k]
                    have hwl : ws.length ≤ 10 := by
                      have h1 := htx.length
                      have h2 := stk_len (drawsOf xs) (drawsOf xs).length
                      rw [List.length_map, List.length_take] at h1
                      omega
                    have NA := news_swap (news_drop1 N₉)
                    clear N₉ N₇
                    walk_at "my call"
                    k_dflt (refine append_K (by k_asm) NA (Upd.head (hox2 _)) ?_ (by rw [PySem.sizeLine_eq, List.size_toArray]; omega))
                    intro h8 F₈ NB
                    k_steps
                    refine ⟨_, _, _, [(_, o6), (d1, W.listOf (ws ++ [Value.str (mk (textOf (part (drawsOf xs) (drawsOf xs).length k))) tv]).toArray (n + 1)), (Dn, W.listOf nvs.toArray nep), (Dr, W.listOf rvs.toArray rep)], rfl, (by k_asm), ?_, hsep' o6 (W.listOf (ws ++ [Value.str (mk (textOf (part (drawsOf xs) (drawsOf xs).length k))) tv]).toArray (n + 1)), ws ++ [Value.str (mk (textOf (part (drawsOf xs) (drawsOf xs).length k))) tv], n + 1, o6, rfl, ?_, ⟨_, d6⟩, rfl, ⟨_, rfl⟩, rfl, rfl⟩
                    · have NC := news_swap NB
                      simp only [List.push_toArray] at NC
                      simp only [List.cons_append, List.nil_append]
                      exact NC
                    · rw [List.take_add_one, hk, Option.toList_some, List.map_append]
                      exact htx.snoc _ _
              · intro m₁ news₁ h tk hJ F₁ N₁
                obtain ⟨ws, n, ob, rfl, htx, hoc, g1, ⟨tpp, g4⟩, g5, g6⟩ := hJ
                replace F₁ := fr_known [(PySem.Str.ofString "due", _), (PySem.Str.ofString "path", _)] F₁ (all2 g1 g4)
                dsimp only [kstB] at F₁
                rw [hv.1, List.take_length] at htx
                have hfin := fin_path (drawsOf xs)
                have hpl := (parts_len (drawsOf xs) (drawsOf xs).length hlen).2
                have hjl := joinL_len ((stk (drawsOf xs) (drawsOf xs).length).map fun k => textOf (part (drawsOf xs) (drawsOf xs).length k))
                rw [hfin, List.length_cons] at hpl
                have hsl := stk_len (drawsOf xs) (drawsOf xs).length
                clear lM3 lM2 lG2
                walk_at "my call"
                refine join_head (by decide +kernel) (news_swap N₁) htx (by omega) (by rw [List.length_map]; omega) ?_
                intro _ _
                walk_at "my bin"
                refine add_is (la := [47]) (by decide +kernel) rfl (by simp only [List.length_cons, List.length_nil]; omega) ?_
                intro _ _
                walk_at "my cmp"
                refine eq_mk_true hfin ?_
                k_steps
  )
end Mine
end

theorem PySem.Challenge.cw_il0084_01_holds : PySem.Challenge.rw_il0084_01.Holds := by
  exact Mine.law_holds
