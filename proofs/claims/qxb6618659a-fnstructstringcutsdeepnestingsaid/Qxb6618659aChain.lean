/- A chain of structs, each but the last with the next as its one argument: its text, plainly; zzChainText. -/
import Derived.Test.Qxb6618659aLawA
namespace Go.Proofs.Qxb6618659a
open Go.RowKit
set_option linter.unusedVariables false

/-- A chain of structs with the names l, its head in block p. -/
def Chain (w : World) : Nat → List ByteArray → Prop
  | _, [] => False
  | p, [s] => Leaf w p s
  | p, s :: t :: l => ∃ g p2, Node w p g 1 s (fun _ => p2) ∧ Chain w p2 (t :: l)

theorem Chain.later {w w' : World} (hb : Below w.heap.size w w') : ∀ (l : List ByteArray) (p : Nat), Chain w p l → Chain w' p l
  | [], _, h => h
  | [s], p, h => Leaf.later h hb
  | s :: t :: l, p, ⟨g, p2, h, hc⟩ => ⟨g, p2, h.later hb, Chain.later hb (t :: l) p2 hc⟩

/-- The text of a chain where d levels more may be spelt out below its head, k names left. -/
def chT : Nat → List ByteArray → Nat → List UInt8 × Nat
  | _, [], k => ([], k)
  | _, [s], k => (s.data.toList, k - 1)
  | 0, _ :: _ :: _, k => ([46, 46, 46], k)
  | d + 1, s :: t :: l, k => nodeT s (fun _ => chT d (t :: l)) 1 k

def capD (d : Nat) : Nat := 1048576 + d * 1048600

theorem chT_ok : ∀ (l : List ByteArray) (d k : Nat), (∀ s ∈ l, s.size ≤ 1048576) → (chT d l k).1.length ≤ capD d ∧ (chT d l k).2 ≤ k
  | [], d, k, _ => by simp [chT]
  | [s], d, k, h => by
    have := h s (by simp)
    simp [chT, capD]
    omega
  | s :: t :: l, 0, k, h => by simp [chT, capD]
  | s :: t :: l, d + 1, k, h => by
    have hs := h s (by simp)
    have ih := fun k => chT_ok (t :: l) d k (fun x hx => h x (List.mem_cons_of_mem _ hx))
    unfold chT nodeT
    by_cases hk : k - 1 = 0
    · simp only [runT, hk, if_true]
      simp [capD]
      omega
    · have := ih (k - 1)
      simp only [runT, hk, if_false, if_true]
      simp [capD] at this ⊢
      omega

theorem chain_writes {w : World} : ∀ (l : List ByteArray) (p d lev : Nat), Chain w p l → d + lev = 8 → (∀ s ∈ l, s.size ≤ 1048576) → Writes w p lev (capD d) (chT d l)
  | [], p, d, lev, h, _, _ => False.elim h
  | [s], p, d, lev, h, hd, hs => by
    have e : chT d [s] = fun k => (s.data.toList, k - 1) := by funext k; unfold chT; rfl
    rw [e]
    have hl : Leaf w p s := h
    have := hs s (by simp)
    exact leaf_writes w p lev (capD d) s (by omega) (by unfold capD; omega) hl.c0 hl.c2
  | s :: t :: l, p, 0, lev, ⟨g, p2, h, hc⟩, hd, hs => by
    obtain rfl : lev = 8 := by omega
    have e : chT 0 (s :: t :: l) = fun k => ([46, 46, 46], k) := by funext k; unfold chT; rfl
    rw [e]
    exact deep_writes w p g 1 (capD 0) s (Nat.le_refl 1) (by omega) (by unfold capD; omega) h.c0 h.c2
  | s :: t :: l, p, d + 1, lev, ⟨g, p2, h, hc⟩, hd, hs => by
    have e : chT (d + 1) (s :: t :: l) = nodeT s (fun _ => chT d (t :: l)) 1 := by funext k; rfl
    rw [e]
    have h2 : ∀ x ∈ t :: l, x.size ≤ 1048576 := fun x hx => hs x (List.mem_cons_of_mem _ hx)
    have h3 := hs s (by simp)
    have ih := chain_writes (t :: l) p2 d (lev + 1) hc (by omega) h2
    exact node_writes w p g 1 lev (capD d) (capD (d + 1)) s (fun _ => p2) (fun _ => chT d (t :: l)) (Nat.le_refl 1) (by omega) (by omega) (by unfold capD; omega) h.c0 h.c2 h.args
      (fun _ _ k _ _ => chT_ok (t :: l) d k h2) (fun _ _ => ih)

/-- The names from the i-th on, j of them. -/
def lst (S : Nat → ByteArray) : Nat → Nat → List ByteArray
  | _, 0 => []
  | i, j + 1 => S i :: lst S (i + 1) j

theorem lst_mem {S : Nat → ByteArray} {n : Nat} (hS : ∀ i, i < n → (S i).size ≤ 1048576) : ∀ j i, i + j ≤ n → ∀ s ∈ lst S i j, s.size ≤ 1048576
  | 0, i, _, s, hs => by simp [lst] at hs
  | j + 1, i, h, s, hs => by
    simp only [lst, List.mem_cons] at hs
    rcases hs with rfl | hs
    · exact hS i (by omega)
    · exact lst_mem hS j (i + 1) (by omega) s hs

/-- Names that stand open, c of them from the i-th on. -/
def fro (S : Nat → ByteArray) (i : Nat) : Nat → List UInt8
  | 0 => []
  | c + 1 => fro S i c ++ (S (i + c)).data.toList ++ [91]

theorem fro_cons (S : Nat → ByteArray) (i : Nat) : ∀ c, fro S i (c + 1) = (S i).data.toList ++ [91] ++ fro S (i + 1) c
  | 0 => by simp [fro]
  | c + 1 => by
    have ih := fro_cons S i c
    rw [fro, ih]
    simp [fro, Nat.add_assoc, Nat.add_comm 1 c]

theorem node_text {s : ByteArray} {G : Nat → List UInt8 × Nat} {k : Nat} (hk : 2 ≤ k) : (nodeT s (fun _ => G) 1 k).1 = s.data.toList ++ [91] ++ (G (k - 1)).1 ++ [93] := by
  unfold nodeT
  simp [runT, show ¬ k - 1 = 0 by omega]

theorem chT_full (S : Nat → ByteArray) : ∀ j i d k, j ≤ d → j < k → (chT d (lst S i (j + 1)) k).1 = fro S i j ++ (S (i + j)).data.toList ++ List.replicate j 93
  | 0, i, d, k, _, _ => by simp [lst, chT, fro]
  | j + 1, i, 0, k, h, _ => absurd h (by omega)
  | j + 1, i, d + 1, k, h, hk => by
    have ih := chT_full S j (i + 1) d (k - 1) (by omega) (by omega)
    show (nodeT (S i) (fun _ => chT d (lst S (i + 1) (j + 1))) 1 k).1 = _
    rw [node_text (by omega), ih, fro_cons, List.replicate_succ', show i + 1 + j = i + (j + 1) by omega]
    simp only [List.append_assoc]

theorem chT_cut (S : Nat → ByteArray) : ∀ d i j k, d < j → d < k → (chT d (lst S i (j + 1)) k).1 = fro S i d ++ [46, 46, 46] ++ List.replicate d 93
  | 0, i, 0, k, h, _ => absurd h (by omega)
  | 0, i, j + 1, k, h, _ => by simp [lst, chT, fro]
  | d + 1, i, 0, k, h, _ => absurd h (by omega)
  | d + 1, i, j + 1, k, h, hk => by
    have ih := chT_cut S d (i + 1) j (k - 1) (by omega) (by omega)
    show (nodeT (S i) (fun _ => chT d (lst S (i + 1) (j + 1))) 1 k).1 = _
    rw [node_text (by omega), ih, fro_cons, List.replicate_succ']
    simp only [List.append_assoc]

/-- What zzChainText says of n names. -/
def chainT (S : Nat → ByteArray) (n : Nat) : List UInt8 :=
  if 9 < n then fro S 0 8 ++ [46, 46, 46] ++ List.replicate 8 93 else fro S 0 (n - 1) ++ (S (n - 1)).data.toList ++ List.replicate (n - 1) 93

theorem chain_text (S : Nat → ByteArray) (n : Nat) (hn : 1 ≤ n) : (chT 8 (lst S 0 n) 16).1 = chainT S n := by
  obtain ⟨j, rfl⟩ : ∃ j, n = j + 1 := ⟨n - 1, by omega⟩
  unfold chainT
  by_cases h : 9 < j + 1
  · rw [if_pos h]
    exact chT_cut S 8 0 j 16 (by omega) (by omega)
  · rw [if_neg h, chT_full S j 0 8 16 (by omega) (by omega)]
    simp

theorem chain_tail (S : Nat → ByteArray) (n : Nat) (hn : 2 ≤ n) (hn2 : n ≤ 9) : chainT S n = (S 0).data.toList ++ [91] ++ (chT 8 (lst S 1 (n - 1)) 16).1 ++ [93] := by
  obtain ⟨j, rfl⟩ : ∃ j, n = j + 2 := ⟨n - 2, by omega⟩
  unfold chainT
  rw [if_neg (by omega)]
  show fro S 0 (j + 1) ++ (S (j + 1)).data.toList ++ List.replicate (j + 1) 93 = (S 0).data.toList ++ [91] ++ (chT 8 (lst S 1 (j + 1)) 16).1 ++ [93]
  rw [chT_full S j 1 8 16 (by omega) (by omega), fro_cons, List.replicate_succ', show 1 + j = j + 1 by omega]
  simp only [List.append_assoc, Nat.zero_add]

/-- zzChainText's first loop, i names said of n. -/
structure CH (S : Nat → ByteArray) (n i : Nat) (t : ByteArray) : Prop where
  eq : t.data.toList = if i < n then fro S 0 i else fro S 0 (n - 1) ++ (S (n - 1)).data.toList
  len : t.size ≤ i * 1048577
/-- The second: i brackets closed. -/
structure CL (l : List UInt8) (i : Nat) (t : ByteArray) : Prop where
  eq : t.data.toList = l ++ List.replicate i 93
  len : t.size ≤ 9437193 + i

theorem CH.start (S : Nat → ByteArray) (n : Nat) (hn : 1 ≤ n) : CH S n 0 ⟨#[]⟩ := ⟨by rw [if_pos (by omega)]; rfl, by show 0 ≤ _; omega⟩
theorem CH.step {S : Nat → ByteArray} {n i : Nat} {t : ByteArray} (h : CH S n i t) (hi : i + 1 < n) (hS : (S i).size ≤ 1048576) : CH S n (i + 1) (t ++ S i ++ ⟨#[91]⟩) := by
  refine ⟨?_, by rw [app_size, app_size]; have := h.len; show _ + _ + 1 ≤ _; omega⟩
  rw [if_pos hi, app_list, app_list, h.eq, if_pos (by omega)]
  simp [fro]
theorem CH.last {S : Nat → ByteArray} {n i : Nat} {t : ByteArray} (h : CH S n i t) (hi : i + 1 = n) (hS : (S i).size ≤ 1048576) : CH S n (i + 1) (t ++ S i) := by
  refine ⟨?_, by rw [app_size]; have := h.len; omega⟩
  subst hi
  rw [if_neg (by omega), app_list, h.eq, if_pos (by omega)]
  simp
theorem CL.start {l : List UInt8} {t : ByteArray} (h : t.data.toList = l) (h2 : t.size ≤ 9437193) : CL l 0 t := ⟨by simp [h], by omega⟩
theorem CL.step {l : List UInt8} {i : Nat} {t : ByteArray} (h : CL l i t) : CL l (i + 1) (t ++ ⟨#[93]⟩) := by
  refine ⟨?_, by rw [app_size]; have := h.len; show _ + 1 ≤ _; omega⟩
  rw [app_list, h.eq, List.replicate_succ']
  simp

end Go.Proofs.Qxb6618659a
