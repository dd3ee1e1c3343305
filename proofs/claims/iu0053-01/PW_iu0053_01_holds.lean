import PyProof.Rows.All
import Wide.All
import OpenK.AllK
import Wide.FinOn
import PyProof.FactsAll.NoneType_1
import PyProof.FactsAll.list_3
import PyProof.FactsAll.list_4
import PyProof.TupleIter
import PyProof.ForAny
import PyProof.CollectWalk
import PyProof.StrWalks
import PyProof.Conv_bool
import PyProof.MeetsSeq
import PyProof.DictKinds
import PyProof.MeetsDict
import PyProof.DictDisplay
import PyProof.DictItems
import PyProof.TupleKey
import PyProof.DictRoadsH
import PyProof.DictWalks
import PyProof.FactsAll.set
import PyProof.WalksMore
import PyProof.ListCopy
import PyProof.ListTruth
import PyProof.SetScanFacts
import PyProof.SetKind
import PyProof.WalksPairs
import PyProof.Rows.TupMore
import PyProof.TupleOfSeq
import PyProof.Rows.SortStr
import PyProof.SetRoads
import PyProof.SetNew
import PyProof.Rows.SetFrom
import KE.KSortTup
import Lean
import PySem.Challenge.RW_iu0053_01
set_option Elab.async false
set_option linter.all false
set_option genInjectivity false
set_option genSizeOf false
set_option genCtorIdx false
set_option compiler.extract_closed false
set_option maxRecDepth 100000
set_option maxHeartbeats 40000000
namespace Mine
-- Head1
section
open PySem PySem.W PyProof.Rows
noncomputable def vw : Program := { PySem.Challenge.pw_iu0053_01 with main := { PySem.Challenge.pw_iu0053_01.main with body := PySem.Challenge.pw_iu0053_01.main.body.take 4 ++ ((PySem.Challenge.pw_iu0053_01.main.body.drop 5).take 1 ++ PySem.Challenge.pw_iu0053_01.main.body.drop 8) } }
noncomputable def vl : List Str := ["FSA", "DFA", "renumber_dfa"]
end
local macro_rules | `(tactic| o_head $_) => `(tactic| assumption)
section
open PySem PySem.W PyProof.Rows
theorem hd (x : (OpenLaw.row PySem.Challenge.rw_iu0053_01).Holds) : (OpenLaw.row PySem.Challenge.rw_iu0053_01).Holds := by
 w_on
 k_head
noncomputable abbrev hk : Hook := kmHook hd.heap_1 [2, 3, 15, 17, 18, 20, 21, 22, 29, 31, 32, 34, 35, 36, 38, 39, 41, 42, 43, 45, 46, 48, 49, 50, 52, 53, 55, 56, 57, 59, 60, 62, 63, 64, 66, 67, 69, 70, 71, 72, 74, 75, 77, 78, 79, 81, 82, 84, 85, 86, 88, 89, 91, 92, 93, 95, 96, 98, 99, 100, 102, 103, 105, 106, 107, 109, 110, 112, 113, 114, 116, 117, 119, 120, 121, 122, 124, 125, 127, 128, 129, 131, 132, 134, 135, 136, 137, 138, 139, 140, 143, 150, 152, 153, 155, 156, 157, 159, 160, 162, 163, 164, 166, 167, 169, 170, 171, 173, 174, 176, 177, 178, 180, 181, 183, 184, 185, 187, 188, 190, 191, 192, 194, 195, 197, 198, 199, 201, 202, 204, 205, 206, 208, 209, 211, 212, 213, 215, 216, 218, 219, 220, 222, 223, 225, 226, 227, 228, 229, 232, 239, 241, 242, 244, 245, 246, 248, 249, 251, 252, 253, 255, 256, 258, 259, 260, 262, 263, 265, 266, 267, 269, 270, 272, 273, 274, 276, 277, 279, 280, 281, 283, 284, 286, 287, 288, 289, 291, 292, 294, 295, 296, 298, 299, 301, 302, 303, 304, 306, 307, 309, 310, 311, 313, 314, 316, 317, 318, 320, 321, 323, 324, 325, 326, 327, 330, 331, 333, 334, 336, 337, 338, 340, 341, 343, 344, 345, 347, 348, 350, 351, 352, 355, 356] (fun _ => by kernel_rfl) [332]
end
-- Left
section
open PySem PySem.W PyProof.Rows
theorem left : LeftO (OpenLaw.row PySem.Challenge.rw_iu0053_01).prog vw vl (fun s => xlAt vw [] s && recOk (RowW.records (OpenRow.toRowW (OpenLaw.row PySem.Challenge.rw_iu0053_01))) s) (Hook.obs hk) (Hook.val hk) 4326 := by
 intro w
 kernel_rfl
end
-- Lem
section
open PySem
theorem hidG {P : Prop} (h : ∀ G : Prop, (P -> G) -> G) : P := h P id
theorem sub_s {n i : Nat} (h : i < n) : n - i = n - (i + 1) + 1 := by rw [Nat.sub_add_eq, Nat.sub_add_cancel (Nat.sub_pos_of_lt h)]
noncomputable def Chu {α : Type} (C : (α -> Prop) -> Prop) (z : α) : Prop := ∀ G : α -> Prop, C G -> G z
@[elab_as_elim] theorem Chu.out {α : Type} {C : (α -> Prop) -> Prop} {motive : α -> Prop} {z : α} (h : Chu C z) (k : C motive) : motive z := h motive k
noncomputable def Chu2 {α β : Type} (C : (α -> β -> Prop) -> Prop) (a : α) (b : β) : Prop := ∀ G : α -> β -> Prop, C G -> G a b
@[elab_as_elim] theorem Chu2.out {α β : Type} {C : (α -> β -> Prop) -> Prop} {motive : α -> β -> Prop} {a : α} {b : β} (h : Chu2 C a b) (k : C motive) : motive a b := h motive k
theorem wpBF {α β : Type} {M : Model} {A : Around} {E : Value -> Shared -> Prop} {s : Shared} {c : Prop} [Decidable c] {a b : Sem α} {f : α -> Sem β} {Q : β -> Shared -> Prop} (hc : decide c = false) (h : wpAny M A (b >>= f) Q E s) : wpAny M A ((if c then a else b) >>= f) Q E s := by rw [if_neg (of_decide_eq_false hc)]; exact h
theorem wpBT {α β : Type} {M : Model} {A : Around} {E : Value -> Shared -> Prop} {s : Shared} {c : Prop} [Decidable c] {a b : Sem α} {f : α -> Sem β} {Q : β -> Shared -> Prop} (hc : decide c = true) (h : wpAny M A (a >>= f) Q E s) : wpAny M A ((if c then a else b) >>= f) Q E s := by rw [if_pos (of_decide_eq_true hc)]; exact h
theorem all0 {α : Type} {P : α -> Prop} : ∀ q ∈ ([] : List α), P q := fun _ h => nomatch h
theorem allC {α : Type} {P : α -> Prop} {a : α} {l : List α} (h : P a) (t : ∀ q ∈ l, P q) : ∀ q ∈ a :: l, P q := fun q hq => by
 cases hq with
 | head => exact h
 | tail _ hq => exact t q hq
theorem all1 {α : Type} {P : α -> Prop} {a : α} (h : P a) : ∀ q ∈ [a], P q := allC h all0
theorem all2 {α : Type} {P : α -> Prop} {a b : α} (h : P a) (h1 : P b) : ∀ q ∈ [a, b], P q := allC h (all1 h1)
theorem all3 {α : Type} {P : α -> Prop} {a b c : α} (h : P a) (h1 : P b) (h2 : P c) : ∀ q ∈ [a, b, c], P q := allC h (all2 h1 h2)
theorem all4 {α : Type} {P : α -> Prop} {a b c d : α} (h : P a) (h1 : P b) (h2 : P c) (h3 : P d) : ∀ q ∈ [a, b, c, d], P q := allC h (all3 h1 h2 h3)
theorem nqN {d : Addr} : ∀ q ∈ ([] : List (Addr × Obj)), q.1 ≠ d := all0
theorem nqC {d a : Addr} {o : Obj} {l : List (Addr × Obj)} (h : a ≠ d) (t : ∀ q ∈ l, q.1 ≠ d) : ∀ q ∈ (a, o) :: l, q.1 ≠ d := allC h t
theorem look {h : Heap} {a : Addr} {o : Obj} {P : Obj -> Prop} (e : h.get? a = some o) (hp : P o) : ∀ o', h.get? a = some o' -> P o' := fun o' e' => by
 rw [e] at e'; cases e'; exact hp
theorem noneOf {h g : Heap} {a : Addr} (hg : g.get? a = none) (k : ∀ o, h.get? a = some o -> g.get? a = some o) : h.get? a = none := by
 cases e : h.get? a with
 | none => rfl
 | some o => rw [k o e] at hg; cases hg
theorem ne_of_get {h : Heap} {a b : Addr} {o : Obj} (e : h.get? a = some o) (n : h.get? b = none) : b ≠ a := fun q => by
 rw [q, e] at n; cases n
theorem ne_of_get' {h : Heap} {a b : Addr} {o : Obj} (e : h.get? a = some o) (n : h.get? b = none) : a ≠ b := fun q => by
 rw [← q, e] at n; cases n
theorem keyVal {K V : Type} {P : Prop} {l : List (K × V)} {k : K} (h : k ∈ l.map (·.1)) (f : ∀ v, (k, v) ∈ l -> P) : P := by
 obtain ⟨⟨k', v⟩, hkv, rfl⟩ := List.mem_map.mp h
 exact f v hkv
theorem keyIn {K V : Type} {l : List (K × V)} {k : K} {v : V} (h : (k, v) ∈ l) : k ∈ l.map (·.1) := List.mem_map.mpr ⟨_, h, rfl⟩
theorem memI {α : Type} {l : List α} {a : α} (i : Nat) (h : some a = l[i]?) : a ∈ l := List.mem_of_getElem? h.symm
theorem subN {α : Type} {l : List α} : ∀ q ∈ ([] : List α), q ∈ l := all0
theorem subC {α : Type} {l t : List α} {a : α} (h : a ∈ l) (k : ∀ q ∈ t, q ∈ l) : ∀ q ∈ a :: t, q ∈ l := allC h k
theorem nin0 {α : Type} {b : α} : b ∉ ([] : List α) := fun h => nomatch h
theorem nin1 {α : Type} {b a : α} (h : b ≠ a) : b ∉ [a] := fun q => h (List.mem_singleton.mp q)
theorem ninC {α : Type} {b a : α} {l : List α} (h : b ≠ a) (t : b ∉ l) : b ∉ a :: l := fun q => (List.mem_cons.mp q).elim h t
theorem nin2 {α : Type} {b a a1 : α} (h : b ≠ a) (h1 : b ≠ a1) : b ∉ [a, a1] := ninC h (nin1 h1)
theorem nin3 {α : Type} {b a a1 a2 : α} (h : b ≠ a) (h1 : b ≠ a1) (h2 : b ≠ a2) : b ∉ [a, a1, a2] := ninC h (nin2 h1 h2)
theorem kvOld {K V : Type} [DecidableEq K] {l : List (K × V)} {k0 : K} {v0 : V} (hv : (k0, v0) ∈ l) (u : ∀ v, (k0, v) ∈ l -> v = v0) (a : K) (v : V) : (a, v) ∈ l ↔ (a = k0 /\ v = v0) ∨ (a ≠ k0 /\ (a, v) ∈ l) :=
 ⟨fun h => if e : a = k0 then .inl ⟨e, u v (e ▸ h)⟩ else .inr ⟨e, h⟩, fun h => h.elim (fun h => by rw [h.1, h.2]; exact hv) (·.2)⟩
theorem kvOldS {K V : Type} [DecidableEq K] {S : Prop} {l : List (K × V)} {k0 : K} {v0 : V} (hs : S) (hv : (k0, v0) ∈ l) (u : ∀ v, (k0, v) ∈ l -> v = v0) (a : K) (v : V) : (a, v) ∈ l ↔ (a = k0 /\ v = v0) ∨ (a ≠ k0 /\ S /\ (a, v) ∈ l) :=
 (kvOld hv u a v).trans ⟨fun h => h.imp id fun h => ⟨h.1, hs, h.2⟩, fun h => h.imp id fun h => ⟨h.1, h.2.2⟩⟩
theorem kvNew {K V : Type} {l : List (K × V)} {k0 : K} {v0 : V} (hn : k0 ∉ l.map (·.1)) (a : K) (v : V) : (a, v) ∈ l ++ [(k0, v0)] ↔ (a = k0 /\ v = v0) ∨ (a ≠ k0 /\ (a, v) ∈ l) :=
 ⟨fun h => (List.mem_append.mp h).elim (fun h => .inr ⟨fun e => hn (e ▸ keyIn h), h⟩) fun h => by cases List.mem_singleton.mp h; exact .inl ⟨rfl, rfl⟩, fun h => h.elim (fun h => List.mem_append_right _ (by rw [h.1, h.2]; exact .head _)) fun h => List.mem_append_left _ h.2⟩
theorem kvNewS {K V : Type} {S : Prop} {l : List (K × V)} {k0 : K} {v0 : V} (hs : S) (hn : k0 ∉ l.map (·.1)) (a : K) (v : V) : (a, v) ∈ l ++ [(k0, v0)] ↔ (a = k0 /\ v = v0) ∨ (a ≠ k0 /\ S /\ (a, v) ∈ l) :=
 (kvNew hn a v).trans ⟨fun h => h.imp id fun h => ⟨h.1, hs, h.2⟩, fun h => h.imp id fun h => ⟨h.1, h.2.2⟩⟩
theorem kvOne {K V : Type} {S : Prop} {k0 : K} {v0 : V} {A : K -> V -> Prop} (hs : ¬ S) (a : K) (v : V) : (a, v) ∈ [(k0, v0)] ↔ (a = k0 /\ v = v0) ∨ (a ≠ k0 /\ S /\ A a v) :=
 ⟨fun h => by cases List.mem_singleton.mp h; exact .inl ⟨rfl, rfl⟩, fun h => h.elim (fun h => by rw [h.1, h.2]; exact .head _) fun h => absurd h.2.1 hs⟩
theorem kvKeys {K V : Type} {l l' : List (K × V)} {k : K} {v0 : V} (h : ∀ a v, (a, v) ∈ l' ↔ (a = k /\ v = v0) ∨ (a ≠ k /\ (a, v) ∈ l)) (a : K) : a ∈ l'.map (·.1) ↔ a = k ∨ (a ≠ k /\ a ∈ l.map (·.1)) :=
 ⟨fun q => keyVal q fun v hv => ((h a v).mp hv).imp (·.1) fun r => ⟨r.1, keyIn r.2⟩, fun q => q.elim (fun e => keyIn ((h a v0).mpr (.inl ⟨e, rfl⟩))) fun r => keyVal r.2 fun v hv => keyIn ((h a v).mpr (.inr ⟨r.1, hv⟩))⟩
theorem kvKeysS {K V : Type} {S : Prop} {l l' : List (K × V)} {k : K} {v0 : V} (h : ∀ a v, (a, v) ∈ l' ↔ (a = k /\ v = v0) ∨ (a ≠ k /\ S /\ (a, v) ∈ l)) (a : K) : a ∈ l'.map (·.1) ↔ a = k ∨ (a ≠ k /\ S /\ a ∈ l.map (·.1)) :=
 ⟨fun q => keyVal q fun v hv => ((h a v).mp hv).imp (·.1) fun r => ⟨r.1, r.2.1, keyIn r.2.2⟩, fun q => q.elim (fun e => keyIn ((h a v0).mpr (.inl ⟨e, rfl⟩))) fun r => keyVal r.2.2 fun v hv => keyIn ((h a v).mpr (.inr ⟨r.1, r.2.1, hv⟩))⟩
theorem lenMap {α β : Type} {f : α -> β} {l : List α} {n : Nat} (h : (l.map f).length ≤ n) : l.length ≤ n := by rw [List.length_map] at h; exact h
theorem backNone {h g : Heap} {D : List Addr} {a : Addr} (Hg : ∀ b o, h.get? b = some o -> b ∉ D -> g.get? b = some o) (hg : g.get? a = none) (n : a ∉ D) : h.get? a = none := noneOf hg fun o e => Hg _ _ e n
end
-- Ex
section
theorem x02 {p0 p1 : Prop} {G : Prop} (h : p0 /\ p1) (k : p0 -> p1 -> G) : G := by
 obtain ⟨h0, h1⟩ := h
 exact k h0 h1
theorem x03 {p0 p1 p2 : Prop} {G : Prop} (h : p0 /\ p1 /\ p2) (k : p0 -> p1 -> p2 -> G) : G := by
 obtain ⟨h0, h1, h2⟩ := h
 exact k h0 h1 h2
theorem x04 {p0 p1 p2 p3 : Prop} {G : Prop} (h : p0 /\ p1 /\ p2 /\ p3) (k : p0 -> p1 -> p2 -> p3 -> G) : G := by
 obtain ⟨h0, h1, h2, h3⟩ := h
 exact k h0 h1 h2 h3
theorem x11 {α : Sort _} {p0 : α -> Prop} {G : Prop} (h : ∃ x, p0 x) (k : ∀ x, p0 x -> G) : G := by
 obtain ⟨x, h0⟩ := h
 exact k x h0
theorem x12 {α : Sort _} {p0 p1 : α -> Prop} {G : Prop} (h : ∃ x, p0 x /\ p1 x) (k : ∀ x, p0 x -> p1 x -> G) : G := by
 obtain ⟨x, h0, h1⟩ := h
 exact k x h0 h1
theorem x13 {α : Sort _} {p0 p1 p2 : α -> Prop} {G : Prop} (h : ∃ x, p0 x /\ p1 x /\ p2 x) (k : ∀ x, p0 x -> p1 x -> p2 x -> G) : G := by
 obtain ⟨x, h0, h1, h2⟩ := h
 exact k x h0 h1 h2
theorem x21 {α : Sort _} {β : Sort _} {p0 : α -> β -> Prop} {G : Prop} (h : ∃ x, ∃ y, p0 x y) (k : ∀ x y, p0 x y -> G) : G := by
 obtain ⟨x, y, h0⟩ := h
 exact k x y h0
theorem x22 {α : Sort _} {β : Sort _} {p0 p1 : α -> β -> Prop} {G : Prop} (h : ∃ x, ∃ y, p0 x y /\ p1 x y) (k : ∀ x y, p0 x y -> p1 x y -> G) : G := by
 obtain ⟨x, y, h0, h1⟩ := h
 exact k x y h0 h1
theorem x23 {α : Sort _} {β : Sort _} {p0 p1 p2 : α -> β -> Prop} {G : Prop} (h : ∃ x, ∃ y, p0 x y /\ p1 x y /\ p2 x y) (k : ∀ x y, p0 x y -> p1 x y -> p2 x y -> G) : G := by
 obtain ⟨x, y, h0, h1, h2⟩ := h
 exact k x y h0 h1 h2
theorem x24 {α : Sort _} {β : Sort _} {p0 p1 p2 p3 : α -> β -> Prop} {G : Prop} (h : ∃ x, ∃ y, p0 x y /\ p1 x y /\ p2 x y /\ p3 x y) (k : ∀ x y, p0 x y -> p1 x y -> p2 x y -> p3 x y -> G) : G := by
 obtain ⟨x, y, h0, h1, h2, h3⟩ := h
 exact k x y h0 h1 h2 h3
theorem x25 {α : Sort _} {β : Sort _} {p0 p1 p2 p3 p4 : α -> β -> Prop} {G : Prop} (h : ∃ x, ∃ y, p0 x y /\ p1 x y /\ p2 x y /\ p3 x y /\ p4 x y) (k : ∀ x y, p0 x y -> p1 x y -> p2 x y -> p3 x y -> p4 x y -> G) : G := by
 obtain ⟨x, y, h0, h1, h2, h3, h4⟩ := h
 exact k x y h0 h1 h2 h3 h4
theorem x26 {α : Sort _} {β : Sort _} {p0 p1 p2 p3 p4 p5 : α -> β -> Prop} {G : Prop} (h : ∃ x, ∃ y, p0 x y /\ p1 x y /\ p2 x y /\ p3 x y /\ p4 x y /\ p5 x y) (k : ∀ x y, p0 x y -> p1 x y -> p2 x y -> p3 x y -> p4 x y -> p5 x y -> G) : G := by
 obtain ⟨x, y, h0, h1, h2, h3, h4, h5⟩ := h
 exact k x y h0 h1 h2 h3 h4 h5
theorem x27 {α : Sort _} {β : Sort _} {p0 p1 p2 p3 p4 p5 p6 : α -> β -> Prop} {G : Prop} (h : ∃ x, ∃ y, p0 x y /\ p1 x y /\ p2 x y /\ p3 x y /\ p4 x y /\ p5 x y /\ p6 x y) (k : ∀ x y, p0 x y -> p1 x y -> p2 x y -> p3 x y -> p4 x y -> p5 x y -> p6 x y -> G) : G := by
 obtain ⟨x, y, h0, h1, h2, h3, h4, h5, h6⟩ := h
 exact k x y h0 h1 h2 h3 h4 h5 h6
theorem x28 {α : Sort _} {β : Sort _} {p0 p1 p2 p3 p4 p5 p6 p7 : α -> β -> Prop} {G : Prop} (h : ∃ x, ∃ y, p0 x y /\ p1 x y /\ p2 x y /\ p3 x y /\ p4 x y /\ p5 x y /\ p6 x y /\ p7 x y) (k : ∀ x y, p0 x y -> p1 x y -> p2 x y -> p3 x y -> p4 x y -> p5 x y -> p6 x y -> p7 x y -> G) : G := by
 obtain ⟨x, y, h0, h1, h2, h3, h4, h5, h6, h7⟩ := h
 exact k x y h0 h1 h2 h3 h4 h5 h6 h7
theorem x31 {α : Sort _} {β : Sort _} {γ : Sort _} {p0 : α -> β -> γ -> Prop} {G : Prop} (h : ∃ x, ∃ y, ∃ z, p0 x y z) (k : ∀ x y z, p0 x y z -> G) : G := by
 obtain ⟨x, y, z, h0⟩ := h
 exact k x y z h0
theorem x32 {α : Sort _} {β : Sort _} {γ : Sort _} {p0 p1 : α -> β -> γ -> Prop} {G : Prop} (h : ∃ x, ∃ y, ∃ z, p0 x y z /\ p1 x y z) (k : ∀ x y z, p0 x y z -> p1 x y z -> G) : G := by
 obtain ⟨x, y, z, h0, h1⟩ := h
 exact k x y z h0 h1
theorem x33 {α : Sort _} {β : Sort _} {γ : Sort _} {p0 p1 p2 : α -> β -> γ -> Prop} {G : Prop} (h : ∃ x, ∃ y, ∃ z, p0 x y z /\ p1 x y z /\ p2 x y z) (k : ∀ x y z, p0 x y z -> p1 x y z -> p2 x y z -> G) : G := by
 obtain ⟨x, y, z, h0, h1, h2⟩ := h
 exact k x y z h0 h1 h2
theorem x34 {α : Sort _} {β : Sort _} {γ : Sort _} {p0 p1 p2 p3 : α -> β -> γ -> Prop} {G : Prop} (h : ∃ x, ∃ y, ∃ z, p0 x y z /\ p1 x y z /\ p2 x y z /\ p3 x y z) (k : ∀ x y z, p0 x y z -> p1 x y z -> p2 x y z -> p3 x y z -> G) : G := by
 obtain ⟨x, y, z, h0, h1, h2, h3⟩ := h
 exact k x y z h0 h1 h2 h3
theorem x43 {α : Sort _} {β : Sort _} {γ : Sort _} {δ : Sort _} {p0 p1 p2 : α -> β -> γ -> δ -> Prop} {G : Prop} (h : ∃ x, ∃ y, ∃ z, ∃ u, p0 x y z u /\ p1 x y z u /\ p2 x y z u) (k : ∀ x y z u, p0 x y z u -> p1 x y z u -> p2 x y z u -> G) : G := by
 obtain ⟨x, y, z, u, h0, h1, h2⟩ := h
 exact k x y z u h0 h1 h2
theorem x44 {α : Sort _} {β : Sort _} {γ : Sort _} {δ : Sort _} {p0 p1 p2 p3 : α -> β -> γ -> δ -> Prop} {G : Prop} (h : ∃ x, ∃ y, ∃ z, ∃ u, p0 x y z u /\ p1 x y z u /\ p2 x y z u /\ p3 x y z u) (k : ∀ x y z u, p0 x y z u -> p1 x y z u -> p2 x y z u -> p3 x y z u -> G) : G := by
 obtain ⟨x, y, z, u, h0, h1, h2, h3⟩ := h
 exact k x y z u h0 h1 h2 h3
end
-- SetTh
section
open PySem
open PySem.SetTable
theorem arr_mono {xs : Array Nat} (hr : xs.toList.Pairwise (· < ·)) {a b : Nat} (ha : a < xs.size) (hb : b < xs.size) (hab : a < b) : xs[a] < xs[b] := by
 have := List.pairwise_iff_getElem.mp hr a b (by simpa using ha) (by simpa using hb) hab
 simpa using this
theorem mid_l {lo hi f m : Nat} (h3 : hi - lo ≤ f + 1) (m1 : lo ≤ m) (m2 : m < hi) : lo ≤ m /\ m < hi /\ m - lo ≤ f /\ hi - (m + 1) ≤ f :=
 ⟨m1, m2, Nat.le_of_lt_succ (Nat.lt_of_lt_of_le (Nat.sub_lt_sub_right m1 m2) h3), Nat.le_trans (Nat.sub_le_sub_left (Nat.succ_le_succ m1) hi) (Nat.sub_add_eq hi lo 1 ▸ Nat.sub_le_sub_right h3 1)⟩
theorem mid_lt {lo hi f : Nat} (h : lo < hi) (h3 : hi - lo ≤ f + 1) : lo ≤ (lo + hi) / 2 /\ (lo + hi) / 2 < hi /\ (lo + hi) / 2 - lo ≤ f /\ hi - ((lo + hi) / 2 + 1) ≤ f :=
 mid_l h3 ((Nat.le_div_iff_mul_le Nat.zero_lt_two).mpr (Nat.mul_two lo ▸ Nat.add_le_add_left (Nat.le_of_lt h) lo)) ((Nat.div_lt_iff_lt_mul Nat.zero_lt_two).mpr (Nat.mul_two hi ▸ Nat.add_lt_add_right h hi))
theorem lo_hi {lo hi : Nat} (h : lo ≤ hi) (q : hi - lo ≤ 0) : lo = hi := Nat.le_antisymm h (Nat.le_of_sub_eq_zero (Nat.eq_zero_of_le_zero q))
theorem go_spec (xs : Array Nat) (hr : xs.toList.Pairwise (· < ·)) (j : Nat) : ∀ (fuel lo hi : Nat), hi ≤ xs.size -> lo ≤ hi -> hi - lo ≤ fuel ->
  (∀ i (h : i < xs.size), i < lo -> xs[i] < j) -> (∀ i (h : i < xs.size), hi ≤ i -> j ≤ xs[i]) ->
  below.go xs j fuel lo hi ≤ xs.size /\ (∀ i (h : i < xs.size), i < below.go xs j fuel lo hi -> xs[i] < j) /\ (∀ i (h : i < xs.size), below.go xs j fuel lo hi ≤ i -> j ≤ xs[i]) := by
 intro fuel
 induction fuel with
 | zero =>
  intro lo hi h1 h2 h3 h4 h5
  have := lo_hi h2 h3
  subst this
  exact ⟨h1, h4, h5⟩
 | succ fuel ih =>
  intro lo hi h1 h2 h3 h4 h5
  have e : below.go xs j (fuel + 1) lo hi = if lo < hi then (if xs.getD ((lo + hi) / 2) j < j then below.go xs j fuel ((lo + hi) / 2 + 1) hi else below.go xs j fuel lo ((lo + hi) / 2)) else lo := rfl
  refine (e).symm ▸ ?_
  by_cases hlt : lo < hi
  ·refine (if_pos hlt).symm ▸ ?_
   refine mid_lt hlt h3 |>.elim fun m1 q => q.elim fun m2 q => q.elim fun m3 m4 => ?_
   have hm : (lo + hi) / 2 < xs.size := Nat.lt_of_lt_of_le m2 h1
   have e : xs.getD ((lo + hi) / 2) j = xs[(lo + hi) / 2] := by simp [Array.getD, hm]
   refine (e).symm ▸ ?_
   by_cases hx : xs[(lo + hi) / 2] < j
   ·refine (if_pos hx).symm ▸ ?_
    refine ih _ _ h1 m2 m4 (fun i hi' hil => ?_) h5
    exact (Nat.lt_succ_iff_lt_or_eq.mp hil).elim (fun q => Nat.lt_trans (arr_mono hr hi' hm q) hx) fun q => by subst q; exact hx
   ·refine (if_neg hx).symm ▸ ?_
    refine ih _ _ (Nat.le_of_lt hm) m1 m3 h4 (fun i hi' hil => ?_)
    exact (Nat.lt_or_eq_of_le hil).elim (fun q => Nat.le_trans (Nat.not_lt.mp hx) (Nat.le_of_lt (arr_mono hr hm hi' q))) fun q => by subst q; exact Nat.not_lt.mp hx
  ·refine (if_neg hlt).symm ▸ ?_
   have := Nat.le_antisymm h2 (Nat.not_lt.mp hlt)
   subst this
   exact ⟨h1, h4, h5⟩
theorem below_spec (xs : Array Nat) (hr : xs.toList.Pairwise (· < ·)) (j : Nat) :
  below xs j ≤ xs.size /\ (∀ i (h : i < xs.size), i < below xs j -> xs[i] < j) /\ (∀ i (h : i < xs.size), below xs j ≤ i -> j ≤ xs[i]) :=
 go_spec xs hr j xs.size 0 xs.size (Nat.le_refl _) (Nat.zero_le _) (Nat.le_refl _) (fun i _ h => absurd h (Nat.not_lt_zero _)) (fun i h h' => absurd h (Nat.not_lt.mpr h'))
theorem below_at {xs : Array Nat} (hr : xs.toList.Pairwise (· < ·)) {i j : Nat} (h : xs[i]? = some j) : below xs j = i := by
 refine x03 (below_spec xs hr j) fun h1 h2 h3 => ?_
 refine x11 (Array.getElem?_eq_some_iff.mp h) fun hi e => ?_
 rcases Nat.lt_trichotomy (below xs j) i with q | q | q
 ·have q' := Nat.lt_trans q hi
  exact absurd (e ▸ arr_mono hr q' hi q) (Nat.not_lt.mpr (h3 (below xs j) q' (Nat.le_refl _)))
 ·exact q
 ·exact absurd (e ▸ h2 i hi q) (Nat.lt_irrefl _)
theorem below_succ {xs : Array Nat} (hr : xs.toList.Pairwise (· < ·)) {i j : Nat} (h : xs[i]? = some j) : below xs (j + 1) = i + 1 := by
 refine x03 (below_spec xs hr (j + 1)) fun h1 h2 h3 => ?_
 refine x11 (Array.getElem?_eq_some_iff.mp h) fun hi e => ?_
 rcases Nat.lt_trichotomy (below xs (j + 1)) (i + 1) with q | q | q
 ·exact absurd (e ▸ h3 i hi (Nat.le_of_lt_succ q)) (Nat.not_succ_le_self _)
 ·exact q
 ·have hb : i + 1 < xs.size := Nat.lt_of_lt_of_le q h1
  have b := arr_mono hr hi hb (Nat.lt_succ_self i)
  exact absurd (Nat.lt_of_lt_of_le (e ▸ b) (Nat.le_of_lt_succ (h2 (i + 1) hb q))) (Nat.lt_irrefl _)
theorem below_zero {xs : Array Nat} (hr : xs.toList.Pairwise (· < ·)) : below xs 0 = 0 := by
 refine x03 (below_spec xs hr 0) fun h1 h2 h3 => ?_
 refine Or.elim (Nat.eq_zero_or_pos (below xs 0)) (fun q => ?_) fun q => ?_
 ·exact q
 ·exact absurd (h2 0 (Nat.lt_of_lt_of_le q h1) q) (Nat.not_lt_zero _)
theorem slot_live {t : SetTable} (hr : t.place.toList.Pairwise (· < ·)) {i j : Nat} (h : t.place[i]? = some j) : t.slot j = .live i := by
 unfold SetTable.slot
 simp only [below_at hr h, h, beq_self_eq_true, if_true]
theorem slot_empty {t : SetTable} (_hr : t.place.toList.Pairwise (· < ·)) (hd : t.dummies = #[]) {j : Nat} (h : j ∉ t.place.toList) : t.slot j = .empty := by
 unfold SetTable.slot
 have h1 : ¬ (t.place[below t.place j]? == some j) = true := by
  intro e
  have := beq_iff_eq.mp e
  exact h (Array.mem_toList_iff.mpr (Array.mem_of_getElem? this))
 have h2 : ¬ SetTable.has t.dummies j = true := by
  unfold SetTable.has
  refine (hd).symm ▸ ?_; simp
 simp only [h1, h2]
 rfl
theorem slot_of {t : SetTable} (hr : t.place.toList.Pairwise (· < ·)) (hd : t.dummies = #[]) (j : Nat) :
  (∃ i, t.place[i]? = some j /\ t.slot j = .live i) ∨ (j ∉ t.place.toList /\ t.slot j = .empty) := by
 by_cases h : j ∈ t.place.toList
 ·refine x11 (List.mem_iff_getElem?.mp h) fun i hi => ?_
  rw [Array.getElem?_toList] at hi
  exact .inl ⟨i, hi, slot_live hr hi⟩
 ·exact .inr ⟨h, slot_empty hr hd h⟩
noncomputable def chainFrom (mask : Nat) : Nat -> Nat -> Nat -> List Nat
 | 0, _, _ => []
 | f + 1, i, p => List.range' i (runEnd mask i + 1 - i) ++ chainFrom mask f (leap mask i p).1 (leap mask i p).2
noncomputable def chainL (mask : Nat) (h : Int) : List Nat := chainFrom mask (turns mask) (bits h % (mask + 1)) (bits h)
noncomputable def leapN (mask : Nat) : Nat -> Nat × Nat -> Nat × Nat
 | 0, x => x
 | n + 1, x => leapN mask n (leap mask x.1 x.2)
theorem runEnd_ge (mask i : Nat) : i ≤ runEnd mask i := by unfold runEnd; split <;> lia
theorem runEnd_le (mask i : Nat) : runEnd mask i ≤ i + 9 := by unfold runEnd; split <;> lia
theorem run_mem {x i r m : Nat} (h : i ≤ r) (hm : r ≤ m) (hx : x < i + (r + 1 - i)) : x ≤ m := Nat.le_trans (Nat.le_of_lt_succ (Nat.add_sub_cancel' (Nat.le_succ_of_le h) ▸ hx)) hm
theorem run_len {r i : Nat} (h : r ≤ i + 9) : r + 1 - i ≤ 10 := Nat.sub_le_iff_le_add.mpr (Nat.add_comm 10 i ▸ Nat.succ_le_succ h)
theorem leapN_mem (mask : Nat) : ∀ (f n : Nat) (i p : Nat), n < f -> (leapN mask n (i, p)).1 ∈ chainFrom mask f i p := by
 intro f
 induction f with
 | zero => intro n i p h; exact absurd h (Nat.not_lt_zero _)
 | succ f ih =>
  intro n i p h
  cases n with
  | zero => exact List.mem_append_left _ (List.mem_range'_1.mpr ⟨Nat.le_refl _, Nat.lt_add_of_pos_right (Nat.sub_pos_of_lt (Nat.lt_succ_of_le (runEnd_ge mask i)))⟩)
  | succ n => exact List.mem_append_right _ (ih n _ _ (Nat.lt_of_succ_lt_succ h))
theorem leapN_add (mask : Nat) : ∀ (a b : Nat) (x : Nat × Nat), leapN mask (a + b) x = leapN mask b (leapN mask a x) := by
 intro a
 induction a with
 | zero => intro b x; rw [Nat.zero_add]; rfl
 | succ a ih => intro b x; rw [Nat.succ_add]; exact ih b _
theorem leapN_snd (mask : Nat) : ∀ (n : Nat) (x : Nat × Nat), (leapN mask n x).2 = x.2 / 32 ^ n := by
 intro n
 induction n with
 | zero => intro x; simp [leapN]
 | succ n ih =>
  intro x
  show (leapN mask n (leap mask x.1 x.2)).2 = _
  rw [ih]
  refine (?_ : x.2 / 32 / 32 ^ n = _)
  rw [Nat.div_div_eq_div_mul, Nat.pow_succ, Nat.mul_comm 32]
theorem leapN_fst_lt (mask : Nat) : ∀ (n : Nat) (x : Nat × Nat), x.1 < mask + 1 -> (leapN mask n x).1 < mask + 1 := by
 intro n
 induction n with
 | zero => intro x h; exact h
 | succ n ih => intro x _; exact ih _ (Nat.mod_lt _ (Nat.succ_pos _))
noncomputable def lcg (mask : Nat) : Nat -> Nat -> Nat
 | 0, i => i
 | n + 1, i => lcg mask n ((i * 5 + 1) % (mask + 1))
theorem leapN_lcg (mask : Nat) : ∀ (n i : Nat), leapN mask n (i, 0) = (lcg mask n i, 0) := by
 intro n
 induction n with
 | zero => intro i; rfl
 | succ n ih =>
  intro i
  refine (?_ : leapN mask n (leap mask i 0) = _)
  have : leap mask i 0 = ((i * 5 + 1) % (mask + 1), 0) := by rfl
  rw [this, ih]; rfl
noncomputable def Mask (m : Nat) : Prop := m = 7 ∨ m = 15 ∨ m = 31
noncomputable def fullCycle (mask : Nat) : Bool := (List.range (mask + 1)).all fun i => (List.range (mask + 1)).all fun y => (List.range (mask + 1)).any fun n => lcg mask n i == y
theorem full7 : fullCycle 7 = true := by decide +kernel
theorem full15 : fullCycle 15 = true := by decide +kernel
theorem full31 : fullCycle 31 = true := by decide +kernel
theorem full_of {m : Nat} (h : Mask m) : ∀ i < m + 1, ∀ y < m + 1, ∃ n < m + 1, lcg m n i = y := by
 have hf : fullCycle m = true := by
  rcases h with rfl | rfl | rfl
  ·exact full7
  ·exact full15
  ·exact full31
 intro i hi y hy
 have a := List.all_eq_true.mp hf i (List.mem_range.mpr hi)
 have b := List.all_eq_true.mp a y (List.mem_range.mpr hy)
 refine x12 (List.any_eq_true.mp b) fun n hn e => ?_
 exact ⟨n, List.mem_range.mp hn, beq_iff_eq.mp e⟩
theorem bits_lt (h : Int) : bits h < 2 ^ 64 := by
 skip
 exact (Int.toNat_lt (Int.emod_nonneg h (by decide))).mpr (Int.emod_lt_of_pos h (by decide))
theorem chain_covers {m : Nat} (hm : Mask m) (h : Int) {y : Nat} (hy : y ≤ m) : y ∈ chainL m h := by
 skip
 have e13 : leapN m 13 (bits h % (m + 1), bits h) = ((leapN m 13 (bits h % (m + 1), bits h)).1, 0) := by
  have := leapN_snd m 13 (bits h % (m + 1), bits h)
  have z : bits h / 32 ^ 13 = 0 := by
   apply Nat.div_eq_of_lt
   have := bits_lt h
   have e : (32 : Nat) ^ 13 = 2 ^ 65 := by decide
   refine (e).symm ▸ ?_
   lia
  rw [z] at this
  exact Prod.ext rfl this
 have hlt := leapN_fst_lt m 13 (bits h % (m + 1), bits h) (Nat.mod_lt _ (Nat.succ_pos _))
 refine x12 (full_of hm _ hlt y (Nat.lt_succ_of_le hy)) fun n hn e => ?_
 have := leapN_mem m (turns m) (13 + n) (bits h % (m + 1)) (bits h) (by unfold turns; lia)
 rw [leapN_add, e13, leapN_lcg, e] at this
 exact this
theorem chain_le (m : Nat) : ∀ (f i p : Nat), i ≤ m -> ∀ x ∈ chainFrom m f i p, x ≤ m := by
 intro f
 induction f with
 | zero => intro i p _ x hx; cases hx
 | succ f ih =>
  intro i p hi x hx
  refine Or.elim (List.mem_append.mp (show _ ∈ _ ++ _ from hx)) (fun hx => ?_) fun hx => ?_
  ·rw [List.mem_range'_1] at hx
   exact run_mem (runEnd_ge m i) (by unfold runEnd; split <;> lia) hx.2
  ·exact ih _ _ (Nat.le_of_lt_succ (Nat.mod_lt _ (Nat.succ_pos _))) x hx
theorem chainL_le (m : Nat) (h : Int) : ∀ x ∈ chainL m h, x ≤ m := chain_le m _ _ _ (Nat.le_of_lt_succ (Nat.mod_lt _ (Nat.succ_pos _)))
theorem chain_len (m : Nat) : ∀ (f i p : Nat), (chainFrom m f i p).length ≤ 10 * f := by
 intro f
 induction f with
 | zero => intro i p; exact Nat.zero_le _
 | succ f ih =>
  intro i p
  refine (?_ : (List.length (_ ++ _)) ≤ _)
  rw [List.length_append, List.length_range']
  exact Nat.le_trans (Nat.add_le_add (run_len (runEnd_le m i)) (ih (leap m i p).1 (leap m i p).2)) (Nat.le_of_eq (Nat.add_comm _ _))
theorem find_split {l : List Nat} {y : Nat} (p : Nat -> Bool) (h : y ∈ l) (hp : p y = true) :
  ∃ pre j post, l = pre ++ j :: post /\ p j = true /\ ∀ x ∈ pre, p x = false := by
 induction l with
 | nil => cases h
 | cons a l ih =>
  by_cases ha : p a = true
  ·exact ⟨[], a, l, rfl, ha, by simp⟩
  ·rcases List.mem_cons.mp h with rfl | h
   ·exact absurd hp ha
   ·refine x33 (ih h) fun pre j post q91 hj hpre => ?_; subst q91
    refine ⟨a :: pre, j, post, rfl, hj, fun x hx => ?_⟩
    rcases List.mem_cons.mp hx with rfl | hx
    ·simpa using ha
    ·exact hpre x hx
noncomputable def restOf (m f : Nat) (p : Probe) : List Nat := List.range' p.j (p.more + 1) ++ chainFrom m f (leap m p.i p.perturb).1 (leap m p.i p.perturb).2
theorem restOf_step (t : SetTable) (f : Nat) (p : Probe) : ∃ f' l, restOf t.mask f p = p.j :: l /\ (l = [] ∨ l = restOf t.mask f' (t.advance p)) := by
 unfold restOf
 by_cases hm : p.more > 0
 ·refine ⟨f, _, ?_, .inr rfl⟩
  have e : t.advance p = { p with j := p.j + 1, more := p.more - 1 } := by unfold SetTable.advance; rw [if_pos hm]
  rw [e]
  skip
  refine (List.range'_succ).symm ▸ ?_
  refine (Nat.sub_add_cancel hm).symm ▸ ?_; rfl
 ·have hm0 : p.more = 0 := Nat.eq_zero_of_not_pos hm
  refine (hm0).symm ▸ ?_
  have e : t.advance p = { p with j := (leap t.mask p.i p.perturb).1, more := runEnd t.mask (leap t.mask p.i p.perturb).1 - (leap t.mask p.i p.perturb).1, i := (leap t.mask p.i p.perturb).1, perturb := (leap t.mask p.i p.perturb).2 } := by
   unfold SetTable.advance; rw [if_neg hm]
  cases f with
  | zero => exact ⟨0, [], by simp [chainFrom], .inl rfl⟩
  | succ f =>
   refine ⟨f, _, rfl, .inr ?_⟩
   refine (e).symm ▸ ?_
   skip
   refine (?_ : chainFrom t.mask (f + 1) (leap t.mask p.i p.perturb).1 (leap t.mask p.i p.perturb).2 = _)
   exact congrArg (List.range' _ · ++ _) (Nat.succ_sub (runEnd_ge t.mask (leap t.mask p.i p.perturb).1))
theorem advance_dummy (t : SetTable) (p : Probe) : (t.advance p).dummy = p.dummy := by
 unfold SetTable.advance; split <;> rfl
theorem go_probe (t : SetTable) (hashAt : Nat -> Int) (h : Int) : ∀ (pre : List Nat) (j : Nat) (post : List Nat) (fuel f : Nat) (p : Probe),
  restOf t.mask f p = pre ++ j :: post -> (pre ++ j :: post).length ≤ fuel -> p.dummy = none -> (∀ x ∈ pre, ∃ i, t.slot x = .live i /\ (hashAt i == h) = false) ->
  (t.slot j = .empty -> SetTable.probe.go t hashAt h fuel p = some (.empty j none)) /\
  (∀ i, t.slot j = .live i -> (hashAt i == h) = true -> ∃ q, SetTable.probe.go t hashAt h fuel p = some (.candidate j i q)) := by
 intro pre
 induction pre with
 | nil =>
  intro j post fuel f p e hf hd _
  refine x22 (restOf_step t f p) fun f' l e' _ => ?_
  rw [e] at e'
  simp at e'
  cases fuel with
  | zero => simp at hf
  | succ fuel =>
   unfold SetTable.probe.go
   rw [← e'.1]
   refine ⟨fun hs => ?_, fun i hs hh => ?_⟩
   ·rw [hs]; simp [hd]
   ·rw [hs]; simp only [hh, if_true]; exact ⟨_, rfl⟩
 | cons a pre ih =>
  intro j post fuel f p e hf hd hpre
  refine x22 (restOf_step t f p) fun f' l e' hl => ?_
  rw [e] at e'
  simp at e'
  refine x02 e' fun q92 q93 => ?_; subst q92; subst q93
  cases fuel with
  | zero => simp at hf
  | succ fuel =>
   refine x12 (hpre p.j (by simp)) fun i hs hh => ?_
   unfold SetTable.probe.go
   rw [hs]
   simp only [hh, Bool.false_eq_true, if_false]
   refine Or.elim (hl) (fun hl => ?_) fun hl => ?_
   ·simp at hl
   ·exact ih j post fuel f' (t.advance p) hl.symm (by simp at hf ⊢; omega) (by rw [advance_dummy]; exact hd) (fun x hx => hpre x (by simp [hx]))
theorem probe_spec (t : SetTable) (hashAt : Nat -> Int) (h : Int) {pre post : List Nat} {j : Nat} (e : chainL t.mask h = pre ++ j :: post)
  (hpre : ∀ x ∈ pre, ∃ i, t.slot x = .live i /\ (hashAt i == h) = false) :
  (t.slot j = .empty -> t.probe hashAt h (t.probeStart h) = some (.empty j none)) /\
  (∀ i, t.slot j = .live i -> (hashAt i == h) = true -> ∃ q, t.probe hashAt h (t.probeStart h) = some (.candidate j i q)) := by
 have hst : ∃ f, restOf t.mask f (t.probeStart h) = chainL t.mask h := by
  unfold chainL
  refine ⟨t.mask + 14, ?_⟩
  have : turns t.mask = (t.mask + 14) + 1 := rfl
  rw [this]
  show List.range' _ _ ++ _ = List.range' _ _ ++ _
  skip
  skip
  exact congrArg (List.range' _ · ++ _) (Nat.succ_sub (runEnd_ge t.mask (bits h % (t.mask + 1)))).symm
 refine x11 hst fun f hf => ?_
 have hlen : (pre ++ j :: post).length ≤ 10 * turns t.mask := by refine (e) ▸ ?_; exact chain_len _ _ _ _
 exact go_probe t hashAt h pre j post _ f _ (hf.trans e) hlen rfl hpre
end
-- SetTh2
section
open PySem
open PySem.SetTable
structure GoodT (t : SetTable) (hs : List Int) : Prop where
 mask : Mask t.mask
 dum : t.dummies = #[]
 size : t.place.size = hs.length
 rise : t.place.toList.Pairwise (· < ·)
 top : ∀ j ∈ t.place.toList, j ≤ t.mask
 room : hs.length ≤ t.mask
 chain : ∀ (i : Nat) (h : Int), hs[i]? = some h -> ∃ pre j post, chainL t.mask h = pre ++ j :: post /\ t.place[i]? = some j /\ ∀ x ∈ pre, x ∈ t.place.toList
theorem GoodT.fresh (f mv : Nat) (led : Bool) : GoodT (.fresh f mv led) [] where
 mask := .inl rfl
 dum := rfl
 size := rfl
 rise := List.Pairwise.nil
 top := fun j h => by cases h
 room := Nat.zero_le _
 chain := fun i h e => by simp at e
theorem GoodT.fill {t : SetTable} {hs : List Int} (g : GoodT t hs) : t.fill = hs.length := by unfold SetTable.fill; rw [g.dum, g.size]; rfl
theorem GoodT.fits {t : SetTable} {hs : List Int} (g : GoodT t hs) : t.fits hs.length = true := by
 unfold SetTable.fits
 rw [g.fill, g.size]
 simp [g.room]
theorem GoodT.notGave {t : SetTable} {hs : List Int} (g : GoodT t hs) : t.gaveWay = false := by
 unfold SetTable.gaveWay
 rcases g.mask with h | h | h <;> rw [h] <;> rfl
theorem GoodT.free {t : SetTable} {hs : List Int} (g : GoodT t hs) (h : Int) :
  ∃ pre j post, chainL t.mask h = pre ++ j :: post /\ j ∉ t.place.toList /\ ∀ x ∈ pre, x ∈ t.place.toList := by
 have hex : ∃ y, y ≤ t.mask /\ y ∉ t.place.toList := by
  by_cases hall : ∀ y, y ≤ t.mask -> y ∈ t.place.toList
  ·have := List.Nodup.length_le_of_subset (l₁ := List.range (t.mask + 1)) (l₂ := t.place.toList) List.nodup_range (fun y hy => hall y (Nat.le_of_lt_succ (List.mem_range.mp hy)))
   rw [List.length_range, Array.length_toList, g.size] at this
   have := g.room
   lia
  ·simp only [Classical.not_forall] at hall
   obtain ⟨y, hy, hn⟩ := hall
   exact ⟨y, hy, hn⟩
 refine hidG fun GG hGG => ?_
 refine x12 hex fun y hy hn => ?_
 refine x33 (find_split (fun x => decide (x ∉ t.place.toList)) (chain_covers g.mask h hy) (by simpa using hn)) fun pre j post e hj hpre => ?_
 refine hGG ?_
 refine ⟨pre, j, post, e, by simpa using hj, fun x hx => ?_⟩
 have := hpre x hx
 simpa using this
theorem GoodT.live {t : SetTable} {hs : List Int} (g : GoodT t hs) {x : Nat} (h : x ∈ t.place.toList) : ∃ i, t.place[i]? = some x /\ t.slot x = .live i /\ ∃ h', hs[i]? = some h' := by
 rcases slot_of g.rise g.dum x with ⟨i, hi, hs'⟩ | ⟨hn, _⟩
 ·refine ⟨i, hi, hs', ?_⟩
  refine x11 (Array.getElem?_eq_some_iff.mp hi) fun hlt _ => ?_
  rw [g.size] at hlt
  exact ⟨_, List.getElem?_eq_getElem hlt⟩
 ·exact absurd h hn
theorem GoodT.probe_free {t : SetTable} {hs : List Int} (g : GoodT t hs) (hashAt : Nat -> Int) (h : Int) (hne : ∀ i, i < hs.length -> hashAt i ≠ h) :
  ∃ j pre post, t.probe hashAt h (t.probeStart h) = some (.empty j none) /\ chainL t.mask h = pre ++ j :: post /\ j ∉ t.place.toList /\ ∀ x ∈ pre, x ∈ t.place.toList := by
 refine hidG fun GG hGG => ?_
 refine x33 (g.free h) fun pre j post e hj hpre => ?_
 refine hGG ?_
 refine ⟨j, pre, post, ?_, e, hj, hpre⟩
 refine (probe_spec t hashAt h e fun x hx => ?_).1 (slot_empty g.rise g.dum hj)
 obtain ⟨i, hi, hsl, h', hh'⟩ := g.live (hpre x hx)
 refine ⟨i, hsl, ?_⟩
 have hlt : i < hs.length := (List.getElem?_eq_some_iff.mp hh').1
 simpa using hne i hlt
theorem GoodT.probe_there {t : SetTable} {hs : List Int} (g : GoodT t hs) (hashAt : Nat -> Int) {i : Nat} {h : Int} (hi : hs[i]? = some h) (hat : ∀ k, k < hs.length -> hashAt k = hs.getD k 0)
  (huniq : ∀ k : Nat, hs[k]? = some h -> k = i) : ∃ j q, t.probe hashAt h (t.probeStart h) = some (.candidate j i q) /\ t.slot j = .live i := by
 refine x33 (g.chain i h hi) fun pre j post e hj hpre => ?_
 have hlt : i < hs.length := (List.getElem?_eq_some_iff.mp hi).1
 have hsl := slot_live g.rise hj
 by_cases hin : j ∈ pre
 ·-- the first time that j is met
  refine x33 (find_split (fun x => decide (x = j)) (l := pre) hin (by simp)) fun pre1 j1 post1 e1 hj1 hpre1 => ?_
  have hj1' : j1 = j := by simpa using hj1
  subst hj1'
  have e2 : chainL t.mask h = pre1 ++ j1 :: (post1 ++ j1 :: post) := by rw [e, e1]; simp
  have hside : ∀ x ∈ pre1, ∃ i, t.slot x = .live i /\ (hashAt i == h) = false := by
   intro x hx
   have hxin : x ∈ t.place.toList := hpre x (by rw [e1]; simp [hx])
   obtain ⟨k, hk, hsk, h', hh'⟩ := g.live hxin
   refine ⟨k, hsk, ?_⟩
   have hklt : k < hs.length := (List.getElem?_eq_some_iff.mp hh').1
   have hne : k ≠ i := by
    rintro rfl
    have := hpre1 x hx
    rw [hj] at hk
    have hxj : j1 = x := Option.some.inj hk
    simp [hxj] at this
   refine (hat k hklt).symm ▸ ?_
   have : hs.getD k 0 = h' := by simp [hh']
   refine (this).symm ▸ ?_
   by_cases hh : h' = h
   ·subst hh; exact absurd (huniq k hh') hne
   ·simpa using hh
  refine x11 ((probe_spec t hashAt h e2 hside).2 i hsl (by rw [hat i hlt]; simp [hi])) fun q hq => ?_
  exact ⟨_, q, hq, hsl⟩
 ·have hside : ∀ x ∈ pre, ∃ i, t.slot x = .live i /\ (hashAt i == h) = false := by
   intro x hx
   obtain ⟨k, hk, hsk, h', hh'⟩ := g.live (hpre x hx)
   refine ⟨k, hsk, ?_⟩
   have hklt : k < hs.length := (List.getElem?_eq_some_iff.mp hh').1
   have hne : k ≠ i := by
    rintro rfl
    rw [hj] at hk
    have hxj : j = x := Option.some.inj hk
    subst hxj
    exact hin hx
   rw [hat k hklt]
   have : hs.getD k 0 = h' := by simp [hh']
   refine (this).symm ▸ ?_
   by_cases hh : h' = h
   ·subst hh; exact absurd (huniq k hh') hne
   ·simpa using hh
  refine x11 ((probe_spec t hashAt h e hside).2 i hsl (by rw [hat i hlt]; simp [hi])) fun q hq => ?_
  exact ⟨_, q, hq, hsl⟩
theorem insert_at_list {α : Type} (l : List α) (p : Nat) (x : α) (hp : p ≤ l.length) (i : Nat) :
  (l.take p ++ x :: l.drop p)[i]? = if i < p then l[i]? else if i = p then some x else l[i - 1]? := by
 have hl : (l.take p).length = p := List.length_take_of_le hp
 by_cases h1 : i < p
 ·rw [if_pos h1, List.getElem?_append_left (hl.symm ▸ h1), List.getElem?_take, if_pos h1]
 ·have h1' := Nat.le_of_not_lt h1
  rw [if_neg h1, List.getElem?_append_right (hl.symm ▸ h1'), hl]
  by_cases h2 : i = p
  ·subst h2; rw [Nat.sub_self, if_pos rfl]; rfl
  ·have h3 := Nat.sub_pos_of_lt (Nat.lt_of_le_of_ne h1' (Ne.symm h2))
   rw [if_neg h2, ← Nat.sub_add_cancel h3, List.getElem?_cons_succ, List.getElem?_drop, Nat.sub_right_comm, Nat.add_sub_cancel' (Nat.le_sub_of_add_le (Nat.lt_of_le_of_ne h1' (Ne.symm h2)))]
theorem GoodT.put {t : SetTable} {hs : List Int} (g : GoodT t hs) {h : Int} {pre post : List Nat} {j : Nat} (e : chainL t.mask h = pre ++ j :: post) (hj : j ∉ t.place.toList) (hpre : ∀ x ∈ pre, x ∈ t.place.toList)
  (hroom : hs.length + 1 ≤ t.mask) : (t.put j).2 ≤ hs.length /\ GoodT (t.put j).1 (hs.take (t.put j).2 ++ h :: hs.drop (t.put j).2) := by
 refine x03 (below_spec t.place g.rise j) fun b1 b2 b3 => ?_
 have hp : (t.put j).2 = below t.place j := rfl
 have hpl : (t.put j).1.place = insertAt t.place (below t.place j) j := rfl
 have hmk : (t.put j).1.mask = t.mask := rfl
 have hdm : (t.put j).1.dummies = #[] := by
  refine (?_ : (if SetTable.has t.dummies j then _ else t.dummies) = #[])
  refine (g.dum).symm ▸ ?_
  rfl
 have hle : below t.place j ≤ hs.length := by refine (g.size) ▸ ?_; exact b1
 refine (hp).symm ▸ ?_
 have hlist : (t.put j).1.place.toList = t.place.toList.take (below t.place j) ++ j :: t.place.toList.drop (below t.place j) := by rw [hpl, SetTable.toList_insertAt]
 have hmem : ∀ x, x ∈ (t.put j).1.place.toList ↔ x = j ∨ x ∈ t.place.toList := by
  intro x
  rw [hlist, List.perm_middle.mem_iff, List.take_append_drop, List.mem_cons]
 refine ⟨hle, ⟨by refine (hmk).symm ▸ ?_; exact g.mask, hdm, ?_, ?_, ?_, ?_, ?_⟩⟩
 ·rw [← Array.length_toList, hlist, List.perm_middle.length_eq, List.perm_middle.length_eq, List.take_append_drop, List.take_append_drop]
  exact congrArg (· + 1) (Array.length_toList.trans g.size)
 ·have hB : ∀ b ∈ t.place.toList.drop (below t.place j), j < b := fun b hx => by
   refine x11 (List.mem_iff_getElem?.mp hx) fun k hk => ?_
   rw [List.getElem?_drop, Array.getElem?_toList] at hk
   refine x11 (Array.getElem?_eq_some_iff.mp hk) fun hlt he => ?_
   exact Nat.lt_of_le_of_ne (he ▸ b3 _ hlt (Nat.le_add_right _ _)) fun q => hj (Array.mem_toList_iff.mpr (q ▸ Array.mem_of_getElem? hk))
  have hA : ∀ a ∈ t.place.toList.take (below t.place j), a < j := fun a ha => by
   refine x11 (List.mem_iff_getElem?.mp ha) fun k hk => ?_
   have hkl : k < below t.place j := Decidable.byContradiction fun q => by rw [List.getElem?_take, if_neg q] at hk; cases hk
   rw [List.getElem?_take, if_pos hkl, Array.getElem?_toList] at hk
   exact x11 (Array.getElem?_eq_some_iff.mp hk) fun hlt he => he ▸ b2 _ hlt hkl
  refine (hlist).symm ▸ ?_
  exact List.pairwise_append.mpr ⟨g.rise.sublist (List.take_sublist _ _), List.pairwise_cons.mpr ⟨hB, g.rise.sublist (List.drop_sublist _ _)⟩, fun a ha b hb => (List.mem_cons.mp hb).elim (fun e => e ▸ hA a ha) fun hb => Nat.lt_trans (hA a ha) (hB b hb)⟩
 ·intro x hx
  refine (hmk).symm ▸ ?_
  rcases (hmem x).mp hx with rfl | hx
  ·exact chainL_le _ h _ (by refine (e).symm ▸ ?_; simp)
  ·exact g.top x hx
 ·rw [hmk, List.perm_middle.length_eq, List.take_append_drop]; exact hroom
 ·intro i h' hi
  rw [insert_at_list _ _ _ hle] at hi
  have hpi : ∀ i, (t.put j).1.place[i]? = if i < below t.place j then t.place[i]? else if i = below t.place j then some j else t.place[i - 1]? := by
   intro i
   rw [← Array.getElem?_toList, hlist, insert_at_list _ _ _ (by rw [Array.length_toList]; exact b1)]
   simp only [Array.getElem?_toList]
  refine (hmk).symm ▸ ?_
  by_cases h1 : i < below t.place j
  ·rw [if_pos h1] at hi
   refine hidG fun GG hGG => ?_
   refine x33 (g.chain i h' hi) fun pre' j' post' e' hj' hpre' => ?_
   refine hGG ?_
   exact ⟨pre', j', post', e', by rw [hpi, if_pos h1]; exact hj', fun x hx => (hmem x).mpr (.inr (hpre' x hx))⟩
  ·rw [if_neg h1] at hi
   by_cases h2 : i = below t.place j
   ·rw [if_pos h2] at hi
    cases hi
    exact ⟨pre, j, post, e, by rw [hpi, if_neg h1, if_pos h2], fun x hx => (hmem x).mpr (.inr (hpre x hx))⟩
   ·rw [if_neg h2] at hi
    refine x33 (g.chain (i - 1) h' hi) fun pre' j' post' e' hj' hpre' => ?_
    exact ⟨pre', j', post', e', by rw [hpi, if_neg h1, if_neg h2]; exact hj', fun x hx => (hmem x).mpr (.inr (hpre' x hx))⟩
theorem free_find (mask : Nat) (owner : Array (Option Nat)) : ∀ (f i p : Nat), layClean.free mask owner f i p = (chainFrom mask f i p).find? fun x => (owner.getD x (some 0)).isNone := by
 intro f
 induction f with
 | zero => intro i p; rfl
 | succ f ih =>
  intro i p
  unfold layClean.free chainFrom
  rw [List.find?_append, List.range'_eq_map_range, List.find?_map]
  have : ((fun x => (owner.getD x (some 0)).isNone) ∘ fun x => i + x) = fun k => (owner.getD (i + k) (some 0)).isNone := rfl
  refine (this).symm ▸ ?_
  cases (List.range (runEnd mask i + 1 - i)).find? fun k => (owner.getD (i + k) (some 0)).isNone with
  | some k => rfl
  | none => simpa using ih _ _
structure LayInv (mask : Nat) (hs : List Int) (k : Nat) (owner : Array (Option Nat)) : Prop where
 size : owner.size = mask + 1
 sound : ∀ (j i : Nat), owner[j]? = some (some i) -> i < k
 at_ : ∀ (i : Nat), i < k -> ∃ (h : Int) (pre : List Nat) (j : Nat) (post : List Nat), hs[i]? = some h /\ chainL mask h = pre ++ j :: post /\ owner[j]? = some (some i) /\ ∀ x ∈ pre, ∃ i' : Nat, owner[x]? = some (some i')
 uniq : ∀ (j j' i : Nat), owner[j]? = some (some i) -> owner[j']? = some (some i) -> j = j'
theorem getD_isNone {owner : Array (Option Nat)} {x : Nat} : (owner.getD x (some 0)).isNone = true ↔ owner[x]? = some none := by
 by_cases h : x < owner.size
 ·simp [Array.getD, h]
 ·simp [Array.getD, h]
theorem set_ne {o : Array (Option Nat)} {j x : Nat} {v : Option Nat} {y : Option (Option Nat)} (q : x ≠ j) (h : o[x]? = y) : (o.setIfInBounds j v)[x]? = y := (Array.getElem?_setIfInBounds_ne (Ne.symm q)).trans h
theorem set_cs {o : Array (Option Nat)} {j x k i : Nat} (hj : j < o.size) (h : (o.setIfInBounds j (some k))[x]? = some (some i)) : (x = j /\ i = k) ∨ o[x]? = some (some i) := by
 by_cases q : x = j
 ·subst q
  rw [Array.getElem?_setIfInBounds_self_of_lt hj] at h
  exact .inl ⟨rfl, Option.some.inj (Option.some.inj h).symm⟩
 ·exact .inr ((Array.getElem?_setIfInBounds_ne (Ne.symm q)).symm.trans h)
theorem nn {o : Array (Option Nat)} {x : Nat} (hx : x < o.size) (h : (o.getD x (some 0)).isNone = false) : ∃ i, o[x]? = some (some i) := by
 cases q : o[x] with
 | none => exact absurd (getD_isNone.mpr (by rw [Array.getElem?_eq_getElem hx, q])) (h ▸ Bool.false_ne_true)
 | some i => exact ⟨i, by rw [Array.getElem?_eq_getElem hx, q]⟩
theorem LayInv.step {mask : Nat} (hm : Mask mask) {hs : List Int} {k : Nat} {owner : Array (Option Nat)} (I : LayInv mask hs k owner) {h : Int} (hk : hs[k]? = some h) (hroom : k < mask + 1) :
  ∃ j, layClean.free mask owner (turns mask) (bits h % (mask + 1)) (bits h) = some j /\ LayInv mask hs (k + 1) (owner.setIfInBounds j (some k)) := by
 have hex : ∃ y, y ≤ mask /\ owner[y]? = some none := by
  by_cases hall : ∀ y, y ≤ mask -> ∃ i, owner[y]? = some (some i)
  ·-- the owners are too few
   let f : Nat -> Nat := fun y => match owner[y]? with | some (some i) => i | _ => 0
   have hnd : ((List.range (mask + 1)).map f).Nodup := by
    rw [List.nodup_iff_pairwise_ne, List.pairwise_map]
    refine List.Pairwise.imp_of_mem ?_ (List.pairwise_lt_range (n := mask + 1))
    intro a b ha hb hab e
    refine x11 (hall a (Nat.le_of_lt_succ (List.mem_range.mp ha))) fun i hi => ?_
    refine x11 (hall b (Nat.le_of_lt_succ (List.mem_range.mp hb))) fun i' hi' => ?_
    have e1 : f a = i := by simp [f, hi]
    have e2 : f b = i' := by simp [f, hi']
    rw [e1, e2] at e
    subst e
    exact absurd (I.uniq a b i hi hi') (Nat.ne_of_lt hab)
   have := List.Nodup.length_le_of_subset (l₂ := List.range k) hnd (fun y hy => by
    refine x12 (List.mem_map.mp hy) fun a ha q91 => ?_; subst q91
    refine x11 (hall a (Nat.le_of_lt_succ (List.mem_range.mp ha))) fun i hi => ?_
    have e1 : f a = i := by simp [f, hi]
    refine (e1).symm ▸ ?_
    exact List.mem_range.mpr (I.sound a i hi))
   rw [List.length_map, List.length_range, List.length_range] at this
   exact absurd this (Nat.not_le.mpr hroom)
  ·simp only [Classical.not_forall] at hall
   obtain ⟨y, hy, hn⟩ := hall
   refine ⟨y, hy, ?_⟩
   have hlt : y < owner.size := I.size ▸ Nat.lt_succ_of_le hy
   rw [Array.getElem?_eq_getElem hlt] at hn ⊢
   cases ho : owner[y] with
   | none => rfl
   | some i => exact absurd ⟨i, by rw [ho]⟩ hn
 refine hidG fun GG hGG => ?_
 refine x12 hex fun y hy hyn => ?_
 refine x33 (find_split (fun x => (owner.getD x (some 0)).isNone) (chain_covers hm h hy) (by rw [getD_isNone]; exact hyn)) fun pre j post e hj hpre => ?_
 refine hGG ?_
 have hjn : owner[j]? = some none := getD_isNone.mp hj
 have hjlt : j < owner.size := (Array.getElem?_eq_some_iff.mp hjn).1
 refine ⟨j, ?_, ?_⟩
 ·rw [free_find]
  show (chainL mask h).find? _ = some j
  rw [e, List.find?_append]
  have : pre.find? (fun x => (owner.getD x (some 0)).isNone) = none := by
   rw [List.find?_eq_none]; intro x hx; refine (hpre x hx).symm ▸ ?_; simp
  refine (this).symm ▸ ?_
  simp only [Option.none_or, List.find?_cons, hj]
 ·have ne : ∀ {x i : Nat}, owner[x]? = some (some i) -> x ≠ j := fun h e => by rw [e, hjn] at h; cases h
  refine ⟨Array.size_setIfInBounds.trans I.size, fun x i hx => ?_, fun i hi => ?_, fun x x' i hx hx' => ?_⟩
  ·exact (set_cs hjlt hx).elim (fun q => q.2 ▸ Nat.lt_succ_self _) fun q => Nat.lt_succ_of_lt (I.sound x i q)
  ·refine (Nat.lt_succ_iff_lt_or_eq.mp hi).elim (fun q => ?_) fun q => ?_
   ·exact x44 (I.at_ i q) fun h' pre' j' post' a1 a2 a3 a4 => ⟨h', pre', j', post', a1, a2, set_ne (ne a3) a3, fun x hx => x11 (a4 x hx) fun i' hi' => ⟨i', set_ne (ne hi') hi'⟩⟩
   ·subst q
    exact ⟨h, pre, j, post, hk, e, Array.getElem?_setIfInBounds_self_of_lt hjlt, fun x hx => x11 (nn (I.size ▸ Nat.lt_succ_of_le (chainL_le mask h x (e ▸ List.mem_append_left _ hx))) (hpre x hx)) fun i' hi' => ⟨i', set_ne (ne hi') hi'⟩⟩
  ·exact (set_cs hjlt hx).elim (fun q => (set_cs hjlt hx').elim (fun q' => q.1.trans q'.1.symm) fun q' => absurd (q.2 ▸ I.sound x' _ q') (Nat.lt_irrefl _))
    fun q => (set_cs hjlt hx').elim (fun q' => absurd (q'.2 ▸ I.sound x _ q) (Nat.lt_irrefl _)) fun q' => I.uniq x x' i q q'
noncomputable def layStep (mask : Nat) (acc : Option (Array (Option Nat) × Nat)) (h : Int) : Option (Array (Option Nat) × Nat) := do
 let (owner, k) ← acc
 let j ← layClean.free mask owner (turns mask) (bits h % (mask + 1)) (bits h)
 pure (owner.setIfInBounds j (some k), k + 1)
theorem lay_fold {mask : Nat} (hm : Mask mask) (hs : List Int) (hn : hs.length ≤ mask) : ∀ (rest : List Int) (k : Nat) (owner : Array (Option Nat)), hs.drop k = rest -> k ≤ hs.length -> LayInv mask hs k owner ->
  ∃ owner', rest.foldl (layStep mask) (some (owner, k)) = some (owner', hs.length) /\ LayInv mask hs hs.length owner' := by
 intro rest
 induction rest with
 | nil =>
  intro k owner e hk I
  have : hs.length ≤ k := List.drop_eq_nil_iff.mp e
  have : k = hs.length := by lia
  subst this
  exact ⟨owner, rfl, I⟩
 | cons h rest ih =>
  intro k owner e hk I
  have hkh : hs[k]? = some h := by
   have := congrArg (fun l => l[0]?) e
   simpa [List.getElem?_drop] using this
  have hlt : k < hs.length := (List.getElem?_eq_some_iff.mp hkh).1
  refine x12 (I.step hm hkh (by lia)) fun j hj I' => ?_
  refine (List.foldl_cons).symm ▸ ?_
  have : layStep mask (some (owner, k)) h = some (owner.setIfInBounds j (some k), k + 1) := by
   unfold layStep
   simp [hj]
  refine (this).symm ▸ ?_
  refine ih (k + 1) _ ?_ hlt I'
  have := congrArg (List.drop 1) e
  simpa [List.drop_drop] using this
theorem layClean_eq (mask : Nat) (hashes : Array Int) : layClean mask hashes = (hashes.toList.foldl (layStep mask) (some (Array.replicate (mask + 1) none, 0))).map (·.1) := by
 unfold layClean
 rw [← Array.foldl_toList]
 rfl
theorem rep_no {n j i : Nat} : ¬ (Array.replicate n (none : Option Nat))[j]? = some (some i) := by
 rw [Array.getElem?_replicate]; split <;> exact nofun
theorem fst_of {a : Nat} {o : Option Nat} {x : Nat × Nat} (h : o.map (a, ·) = some x) : x.1 = a := by cases o <;> cases h; rfl
theorem laid_good {mask finger moves : Nat} {led plain : Bool} (hm : Mask mask) {hashes : Array Int} (hn : hashes.size ≤ mask) :
  ∃ t order, laid mask finger moves led plain hashes = some (t, order) /\ order.toList.Perm (List.range hashes.size) /\ GoodT t (order.toList.filterMap (hashes[·]?)) /\
   t.mask = mask /\ t.finger = finger /\ t.moves = moves /\ t.led = led /\ t.plain = plain := by
 have I0 : LayInv mask hashes.toList 0 (Array.replicate (mask + 1) none) := by
  exact ⟨Array.size_replicate, fun j i h => absurd h rep_no, fun i hi => absurd hi (Nat.not_lt_zero _), fun j j' i h => absurd h rep_no⟩
 refine x12 (lay_fold hm hashes.toList (by simpa using hn) hashes.toList 0 _ rfl (Nat.zero_le _) I0) fun owner ho I => ?_
 have hl : layClean mask hashes = some owner := by rw [layClean_eq, ho]; rfl
 unfold laid
 rw [hl]
 simp only [Option.bind_eq_bind, Option.bind_some]
 generalize hlive : (List.range (mask + 1)).filterMap (fun j => (owner.getD j none).map (j, ·)) = live
 have hN : hashes.toList.length = hashes.size := Array.length_toList
 have getDn : ∀ j i, owner.getD j none = some i ↔ owner[j]? = some (some i) := by
  intro j i
  by_cases h : j < owner.size
  ·simp [Array.getD, h]
  ·simp [Array.getD, h]
 have hmem : ∀ j i, (j, i) ∈ live ↔ owner[j]? = some (some i) := by
  intro j i
  refine (hlive) ▸ ?_
  exact ⟨fun h => x12 (List.mem_filterMap.mp h) fun a _ e => x12 (Option.map_eq_some_iff.mp e) fun i' h1 h2 => by cases h2; exact (getDn _ _).mp h1,
   fun h => List.mem_filterMap.mpr ⟨j, List.mem_range.mpr (I.size ▸ (Array.getElem?_eq_some_iff.mp h).1), by rw [(getDn j i).mpr h]; rfl⟩⟩
 have hrise : (live.map (·.1)).Pairwise (· < ·) := by
  rw [List.pairwise_map, ← hlive]
  refine List.Pairwise.filterMap (R := (· < ·)) _ ?_ List.pairwise_lt_range
  intro a b hab x hx y hy
  rw [fst_of hx, fst_of hy]; exact hab
 have hnd : (live.map (·.2)).Nodup := by
  rw [List.nodup_iff_pairwise_ne, List.pairwise_map]
  rw [List.pairwise_map] at hrise
  refine List.Pairwise.imp_of_mem ?_ hrise
  intro x y hx hy hlt e
  obtain ⟨j, i⟩ := x
  obtain ⟨j', i'⟩ := y
  simp only at e hlt
  subst e
  exact absurd (I.uniq j j' i ((hmem _ _).mp hx) ((hmem _ _).mp hy)) (Nat.ne_of_lt hlt)
 have hperm : (live.map (·.2)).Perm (List.range hashes.size) := by
  rw [List.perm_ext_iff_of_nodup hnd List.nodup_range]
  intro i
  rw [List.mem_range, List.mem_map]
  constructor
  ·rintro ⟨⟨j, i'⟩, hx, rfl⟩
   have := I.sound j i' ((hmem _ _).mp hx)
   rwa [hN] at this
  ·intro hi
   refine hidG fun GG hGG => ?_
   refine x44 (I.at_ i (by refine (hN).symm ▸ ?_; exact hi)) fun h pre j post _ _ a3 _ => ?_
   refine hGG ?_
   exact ⟨(j, i), (hmem _ _).mpr a3, rfl⟩
 refine ⟨_, _, rfl, by simpa using hperm, ?_, rfl, rfl, rfl, rfl, rfl⟩
 -- the hashes in the new order
 have hfm : ∀ (l : List (Nat × Nat)), (∀ x ∈ l, x.2 < hashes.size) -> (l.map (·.2)).filterMap (hashes[·]?) = l.map fun x => hashes.getD x.2 0 := by
  intro l hl
  induction l with
  | nil => rfl
  | cons x l ih =>
   have hx := hl x (by simp)
   simp only [List.map_cons]
   rw [List.filterMap_cons_some (b := hashes.getD x.2 0) (by simp [hx]), ih (fun y hy => hl y (by simp [hy]))]
 have hlt : ∀ x ∈ live, x.2 < hashes.size := by
  rintro ⟨j, i⟩ hx
  have := I.sound j i ((hmem _ _).mp hx)
  rwa [hN] at this
 rw [show (live.map (·.2)).toArray.toList = live.map (·.2) from rfl, hfm live hlt]
 have hlen : live.length = hashes.size := by have := hperm.length_eq; simpa using this
 refine ⟨hm, rfl, by rw [List.size_toArray, List.length_map, List.length_map], hrise, ?_, by rw [List.length_map, hlen]; exact hn, ?_⟩
 ·intro j hj
  simp only [List.mem_map] at hj
  obtain ⟨⟨j', i⟩, hx, rfl⟩ := hj
  have := (Array.getElem?_eq_some_iff.mp ((hmem _ _).mp hx)).1
  rw [I.size] at this
  exact Nat.le_of_lt_succ this
 ·intro i h hi
  rw [List.getElem?_map] at hi
  cases hx : live[i]? with
  | none => rw [hx] at hi; cases hi
  | some x =>
   obtain ⟨j, k⟩ := x
   rw [hx] at hi
   simp only [Option.map_some, Option.some.injEq] at hi
   have hin : (j, k) ∈ live := List.mem_of_getElem? hx
   have hk : k < hashes.size := hlt _ hin
   refine hidG fun GG hGG => ?_
   refine x44 (I.at_ k (by rw [hN]; exact hk)) fun h' pre j' post a1 a2 a3 a4 => ?_
   refine hGG ?_
   have hh : h' = h := by
    refine (hi) ▸ ?_
    rw [Array.getElem?_toList] at a1
    simp [a1]
   subst hh
   have hjj : j' = j := I.uniq j' j k a3 ((hmem _ _).mp hin)
   subst hjj
   refine ⟨pre, j', post, a2, ?_, fun x hx' => ?_⟩
   ·show (live.map (·.1)).toArray[i]? = some j'
    simp [hx]
   ·refine x11 (a4 x hx') fun i' hi' => ?_
    refine (?_ : x ∈ live.map (·.1))
    exact List.mem_map.mpr ⟨(x, i'), (hmem _ _).mpr hi', rfl⟩
end
-- SetOp1
section
open PySem
open PySem.SetTable
noncomputable def hsOf (es : Array (Int × Value)) : List Int := es.toList.map (·.1)
theorem hsOf_len (es : Array (Int × Value)) : (hsOf es).length = es.size := by simp [hsOf]
theorem hsOf_get (es : Array (Int × Value)) (i : Nat) : (hsOf es)[i]? = es[i]?.map (·.1) := by simp [hsOf]
theorem layNew_good {t : SetTable} {es : Array (Int × Value)} (g : GoodT t (hsOf es)) (hroom : es.size + 1 ≤ t.mask) (h : Int) (x : Value) :
  ∃ es' t', layNew t es h x = (es', t', false, false) /\ es'.toList.Perm ((h, x) :: es.toList) /\ GoodT t' (hsOf es') /\ t'.mask = t.mask /\ t'.led = t.led /\ t'.plain = t.plain := by
 refine x34 (g.probe_free (fun _ => h + 1) h (fun i _ => by lia)) fun j pre post hp e hj hpre => ?_
 have hf : t.freeSlot h = some (j, false) := by unfold SetTable.freeSlot; refine (hp).symm ▸ ?_; rfl
 refine x02 (g.put e hj hpre (by rw [hsOf_len]; exact hroom)) fun hle g' => ?_
 have hlen : (hsOf es).length = es.size := hsOf_len es
 have hes : hsOf (insertAt es (t.put j).2 (h, x)) = (hsOf es).take (t.put j).2 ++ h :: (hsOf es).drop (t.put j).2 := by
  unfold hsOf
  rw [SetTable.toList_insertAt, List.map_append, List.map_cons, List.map_take, List.map_drop]
 have hperm : (insertAt es (t.put j).2 (h, x)).toList.Perm ((h, x) :: es.toList) := by
  rw [SetTable.toList_insertAt]
  refine List.perm_middle.trans ?_
  rw [List.take_append_drop]
 rw [← hes] at g'
 have hfit : (t.put j).1.fits (insertAt es (t.put j).2 (h, x)).size = true := by rw [← hsOf_len]; exact g'.fits
 refine ⟨insertAt es (t.put j).2 (h, x), (t.put j).1, ?_, hperm, g', rfl, rfl, rfl⟩
 unfold layNew
 rw [hf]
 simp only
 rw [hfit]
 unfold SetTable.orStandIn
 refine (hfit).symm ▸ ?_
 rfl
theorem filterMap_map_fst (es : Array (Int × Value)) (l : List Nat) : (l.filterMap (es[·]?)).map (·.1) = l.filterMap ((es.map (·.1))[·]?) := by
 rw [List.map_filterMap]
 congr 1
 funext i
 simp
theorem relaid_good {t : SetTable} {es : Array (Int × Value)} {wanted : Nat} (hm : Mask (sizeAbove wanted - 1)) (hn : es.size ≤ sizeAbove wanted - 1) :
  ∃ t' order, t.relaid (es.map (·.1)) wanted = some (t', order) /\ order.toList.Perm (List.range es.size) /\ (order.filterMap (es[·]?)).toList.Perm es.toList /\
   GoodT t' (hsOf (order.filterMap (es[·]?))) /\ t'.mask = sizeAbove wanted - 1 /\ t'.led = t.led /\ t'.plain = t.plain := by
 refine x28 (laid_good (finger := t.finger) (moves := t.movedTo (sizeAbove wanted - 1)) (led := t.led) (plain := t.plain) hm (hashes := es.map (·.1)) (by simpa using hn)) fun t' order e hp g a1 _ _ a4 a5 => ?_
 have hp' : order.toList.Perm (List.range es.size) := by simpa using hp
 refine ⟨t', order, e, hp', ?_, ?_, a1, a4, a5⟩
 ·rw [Array.toList_filterMap]
  exact (hp'.filterMap _).trans (by rw [filterMap_getElem?_range])
 ·unfold hsOf
  rw [Array.toList_filterMap, filterMap_map_fst]
  exact g
theorem relayAll_good {t : SetTable} {es : Array (Int × Value)} {wanted : Nat} (hm : Mask (sizeAbove wanted - 1)) (hn : es.size ≤ sizeAbove wanted - 1) :
  ∃ es' t', relayAll t es wanted = (es', t', false) /\ es'.toList.Perm es.toList /\ GoodT t' (hsOf es') /\ t'.mask = sizeAbove wanted - 1 /\ t'.led = t.led /\ t'.plain = t.plain := by
 refine x27 (relaid_good (t := t) hm hn) fun t' order e hp hpe g a1 a2 a3 => ?_
 refine ⟨_, t', ?_, hpe, g, a1, a2, a3⟩
 unfold relayAll
 refine (e).symm ▸ ?_
 simp only
 have hc : coversAll order es.size = true := by unfold coversAll; exact List.isPerm_iff.mpr hp
 have hf : t'.fits (order.filterMap (es[·]?)).size = true := by rw [← hsOf_len]; exact g.fits
 rw [hc, hf]
 rfl
structure TabOk (lim : Nat) (es : Array (Int × Value)) (t : SetTable) : Prop where
 good : GoodT t (hsOf es)
 notFull : es.size * 5 < t.mask * 3
 le : es.size ≤ lim
 lim18 : lim ≤ 18
 lim15 : lim ≤ 8 ∨ t.mask ≠ 15
theorem TabOk.fits {lim es t} (o : TabOk lim es t) : t.fits es.size = true := by rw [← hsOf_len]; exact o.good.fits
theorem TabOk.fresh {lim : Nat} (h : lim ≤ 18) (f mv : Nat) (led : Bool) : TabOk lim #[] (.fresh f mv led) :=
 ⟨GoodT.fresh f mv led, (by refine (?_ : 0 * 5 < 7 * 3); decide), Nat.zero_le _, h, .inr (by refine (?_ : (7 : Nat) ≠ 15); decide)⟩
theorem sizeAbove_small {n : Nat} (h : n < 32) : sizeAbove n = if n < 8 then 8 else if n < 16 then 16 else 32 := by
 have : ∀ m : Nat, m < 32 -> sizeAbove m = if m < 8 then 8 else if m < 16 then 16 else 32 := by decide +kernel
 exact this n h
theorem mask_of_small {n : Nat} (h : n < 32) : Mask (sizeAbove n - 1) := by
 refine (sizeAbove_small h).symm ▸ ?_
 split
 ·exact .inl rfl
 ·split
  ·exact .inr (.inl rfl)
  ·exact .inr (.inr rfl)
theorem TabOk.room {lim es t} (o : TabOk lim es t) : es.size + 1 ≤ t.mask := by
 have := o.notFull
 rcases o.good.mask with h | h | h <;> rw [h] at this ⊢ <;> lia
theorem TabOk.added {lim : Nat} {es es' : Array (Int × Value)} {t t' : SetTable} (o : TabOk lim es t) (hp : es'.toList.length = es.toList.length + 1) (hl : es.size + 1 ≤ lim) (g : GoodT t' (hsOf es')) (hm : t'.mask = t.mask) :
  (t'.tooFull = false /\ TabOk lim es' t') ∨
  (t'.tooFull = true /\ ∃ es2 t2, relayAll t' es' (grown es'.size) = (es2, t2, false) /\ es2.toList.Perm es'.toList /\ TabOk lim es2 t2 /\ t2.led = t'.led /\ t2.plain = t'.plain) := by
 have hsz : es'.size = es.size + 1 := by simpa using hp
 have hfill : t'.fill = es'.size := by rw [g.fill, hsOf_len]
 cases htf : t'.tooFull with
 | false =>
  left
  refine ⟨rfl, g, ?_, by lia, o.lim18, hm ▸ o.lim15⟩
  unfold SetTable.tooFull at htf
  rw [hfill] at htf
  simpa using htf
 | true =>
  right
  refine ⟨rfl, ?_⟩
  unfold SetTable.tooFull at htf
  rw [hfill, hm] at htf
  have hge : t.mask * 3 ≤ es'.size * 5 := by simpa using htf
  have hlt := o.notFull
  have hlim := o.lim18
  -- mask 7 alone
  have h7 : t.mask = 7 /\ es'.size = 5 := by
   rcases o.good.mask with h | h | h
   ·rw [h] at hge hlt; lia
   ·rcases o.lim15 with q | q
    ·rw [h] at hge; lia
    ·exact absurd h q
   ·rw [h] at hge; lia
  have hg : grown es'.size = 20 := by rw [h7.2]; rfl
  refine (hg).symm ▸ ?_
  have h31 : sizeAbove 20 - 1 = 31 := by decide +kernel
  refine x26 (relayAll_good (t := t') (es := es') (wanted := 20) (by refine (h31).symm ▸ ?_; exact .inr (.inr rfl)) (by refine (h31).symm ▸ ?_; lia)) fun es2 t2 e hpe g2 a1 a2 a3 => ?_
  have hsz2 : es2.size = 5 := by rw [← Array.length_toList, hpe.length_eq, Array.length_toList]; exact h7.2
  exact ⟨es2, t2, e, hpe, ⟨g2, by rw [a1, h31, hsz2]; decide, by lia, o.lim18, .inr (by rw [a1, h31]; decide)⟩, a2, a3⟩
end
-- SetOp2
section
open PySem
open PySem.SetTable
noncomputable abbrev setO (es : Array (Int × Value)) (ep : Nat) (t : SetTable) : Obj := ⟨.type "set", none, .set es ep t, #[]⟩
theorem setO_exact (es ep t) : (setO es ep t).ExactSet := ⟨rfl, rfl, rfl⟩
inductive SetBe (lim : Nat) (o : Obj) (es : Array (Int × Value)) (t : SetTable) : Prop
 | mk : ∀ ep, o = setO es ep t -> TabOk lim es t -> SetBe lim o es t
noncomputable def KeysAre {K : Type} (hash : K -> Int) (is : K -> Value -> Prop) (es : List (Int × Value)) (l : List K) : Prop :=
 es.length = l.length /\ ∀ (i : Nat) (e : Int × Value) (k : K), es[i]? = some e -> l[i]? = some k -> e.1 = hash k /\ is k e.2
section
variable {K : Type} {hash : K -> Int} {is is' : K -> Value -> Prop} {es es' : List (Int × Value)} {l : List K}
theorem KeysAre.nil : KeysAre hash is [] [] := ⟨rfl, fun i e k h => by simp at h⟩
theorem KeysAre.mono (h : KeysAre hash is es l) (hi : ∀ k v, is k v -> is' k v) : KeysAre hash is' es l := ⟨h.1, fun i e k a b => ⟨(h.2 i e k a b).1, hi _ _ (h.2 i e k a b).2⟩⟩
theorem KeysAre.cons {x : Int × Value} {k : K} (h1 : x.1 = hash k) (h2 : is k x.2) (h : KeysAre hash is es l) : KeysAre hash is (x :: es) (k :: l) := by
 refine ⟨by simp [h.1], fun i e k' a b => ?_⟩
 cases i with
 | zero => simp at a b; subst a; subst b; exact ⟨h1, h2⟩
 | succ i => simp at a b; exact h.2 i e k' a b
theorem KeysAre.uncons {x : Int × Value} (h : KeysAre hash is (x :: es) l) : ∃ k l', l = k :: l' /\ x.1 = hash k /\ is k x.2 /\ KeysAre hash is es l' := by
 cases l with
 | nil => have := h.1; simp at this
 | cons k l' =>
  have h0 := h.2 0 x k rfl rfl
  exact ⟨k, l', rfl, h0.1, h0.2, by have := h.1; simpa using this, fun i e k' a b => h.2 (i + 1) e k' (by simpa using a) (by simpa using b)⟩
theorem KeysAre.perm (p : es'.Perm es) : ∀ {l : List K}, KeysAre hash is es l -> ∃ l', l'.Perm l /\ KeysAre hash is es' l' := by
 induction p with
 | nil => intro l h; exact ⟨l, .rfl, h⟩
 | cons x _ ih =>
  intro l h
  refine x24 h.uncons fun k l' q91 h1 h2 h3 => ?_; subst q91
  refine x12 (ih h3) fun l2 hp h4 => ?_
  exact ⟨k :: l2, hp.cons k, h4.cons h1 h2⟩
 | swap x y _ =>
  intro l h
  refine hidG fun GG hGG => ?_
  refine x24 h.uncons fun k l' q92 h1 h2 h3 => ?_; subst q92
  refine x24 h3.uncons fun k' l2 q93 h4 h5 h6 => ?_; subst q93
  refine hGG ?_
  exact ⟨k' :: k :: l2, .swap _ _ _, (h6.cons h1 h2).cons h4 h5⟩
 | trans _ _ ih1 ih2 =>
  intro l h
  refine x12 (ih2 h) fun l1 p1 h1 => ?_
  refine x12 (ih1 h1) fun l2 p2 h2 => ?_
  exact ⟨l2, p2.trans p1, h2⟩
theorem KeysAre.mem_left (h : KeysAre hash is es l) {e : Int × Value} (he : e ∈ es) : ∃ k ∈ l, e.1 = hash k /\ is k e.2 := by
 refine x11 (List.mem_iff_getElem?.mp he) fun i hi => ?_
 have hlt : i < es.length := (List.getElem?_eq_some_iff.mp hi).1
 have hl : i < l.length := by rw [← h.1]; exact hlt
 exact ⟨l[i], List.getElem_mem hl, h.2 i e l[i] hi (List.getElem?_eq_getElem hl)⟩
theorem KeysAre.mem_right (h : KeysAre hash is es l) {k : K} (hk : k ∈ l) : ∃ e ∈ es, e.1 = hash k /\ is k e.2 := by
 refine x11 (List.mem_iff_getElem?.mp hk) fun i hi => ?_
 have hlt : i < l.length := (List.getElem?_eq_some_iff.mp hi).1
 have hl : i < es.length := by rw [h.1]; exact hlt
 exact ⟨es[i], List.getElem_mem hl, h.2 i es[i] k (List.getElem?_eq_getElem hl) hi⟩
end
section
variable {prog : Program} {w : World} {A : Around} {E : Value -> Shared -> Prop} {s : Shared} {a : Addr} {lim : Nat} {o : Obj} {es : Array (Int × Value)} {t : SetTable}
theorem SetBe.state {Q : (Array (Int × Value) × Nat × SetTable) -> Shared -> Prop} (b : SetBe lim o es t) (ho : s.heap.get? a = some o) (h : ∀ ep, o = setO es ep t -> Q (es, ep, t) s) :
  wpAny (model prog w) A (setState a) Q E s := by
 obtain ⟨ep, rfl, ok⟩ := b
 exact wpAny_setState_of ho rfl ok.fits (h ep rfl)
theorem upd_get {h : Heap} {a : Addr} {es ep t} (ho : h.get? a = some (setO es ep t)) (es' : Array (Int × Value)) (t' : SetTable) : (h.update a (Obj.putSet es' t')).get? a = some (setO es' (ep + 1) t') := by
 have := Heap.get?_update_self (Obj.putSet es' t') ho rfl
 exact this
inductive Added (lim : Nat) (a : Addr) (h : Heap) (es : Array (Int × Value)) (t : SetTable) (hx : Int) (x : Value) (h' : Heap) : Prop
 | mk : Heap.SameBut a h h' -> ∀ o' es' t', h'.get? a = some o' -> SetBe lim o' es' t' -> es'.toList.Perm ((hx, x) :: es.toList) -> t'.led = t.led -> (t.plain = true -> plainKind x = true -> t'.plain = true) -> Added lim a h es t hx x h'
theorem storeAdd {g : Bool -> Sem Unit} (hg : ∀ (b : Bool) (sz1 : Shared) (Q' : Unit -> Shared -> Prop), Q' () sz1 -> wpAny (model prog w) A (g b) Q' E sz1)
  {ep : Nat} {hx : Int} {x : Value} (ho : s.heap.get? a = some (setO es ep t)) (ok : TabOk lim es t) (hl : es.size + 1 ≤ lim) {es1 : Array (Int × Value)} {t1 : SetTable} (hp : es1.toList.Perm ((hx, x) :: es.toList)) (gd : GoodT t1 (hsOf es1))
  (hm : t1.mask = t.mask) (hled : t1.led = t.led) (hpl : t.plain = true -> plainKind x = true -> t1.plain = true) {R : Option Bool -> Shared -> Prop}
  (h : ∀ h', Added lim a s.heap es t hx x h' -> R (some true) { s with heap := h' }) :
  wpAny (model prog w) A (do
    storeSet a es1 t1
    if (!false && t1.tooFull) = true then do
      g (relayAll t1 es1 (SetTable.grown es1.size)).2.2
      storeSet a (relayAll t1 es1 (SetTable.grown es1.size)).1 (relayAll t1 es1 (SetTable.grown es1.size)).2.1
      pure (some true)
     else pure (some true)) R E s := by
 have hsz : es1.toList.length = es.toList.length + 1 := by rw [hp.length_eq]; rfl
 have hsz' : es1.size = es.size + 1 := by simpa using hsz
 have hz : es1.size ≤ sizeLine := by rw [sizeLine_eq]; have := ok.lim18; lia
 refine wpAny_bind (wpAny_storeSet_of ho rfl ?_ hz)
 have ho1 := upd_get ho es1 t1
 rcases ok.added hsz hl gd hm with ⟨htf, ok'⟩ | ⟨htf, es2, t2, he, hpe, ok', hled2, hpl2⟩
 ·rw [htf]
  refine wpAny_ite_false (by first | rfl | simp) ?_
  exact wpAny_pure (h _ ⟨Heap.SameBut.update _ _ _, _, es1, t1, ho1, ⟨_, rfl, ok'⟩, hp, hled, hpl⟩)
 ·rw [htf, he]
  refine wpAny_ite_true (by first | rfl | simp) ?_
  refine wpAny_bind (hg _ _ _ ?_)
  have hz2 : es2.size ≤ sizeLine := by rw [sizeLine_eq]; have := ok'.le; have := ok'.lim18; lia
  refine wpAny_bind (wpAny_storeSet_of ho1 rfl ?_ hz2)
  have ho2 := upd_get ho1 es2 t2
  exact wpAny_pure (h _ ⟨(Heap.SameBut.update _ _ _).trans (Heap.SameBut.update _ _ _), _, es2, t2, ho2, ⟨_, rfl, ok'⟩, hpe.trans hp, by rw [hled2, hled], fun a b => by rw [hpl2]; exact hpl a b⟩)
variable {K : Type} [DecidableEq K] {knd : KeyKind prog w K} {k : K} {x : Value}
noncomputable abbrev scanIs (knd : KeyKind prog w K) (k : K) (v : Value) : Prop := knd.is k v = true /\ v.scannable = true
noncomputable abbrev ScanKeys (knd : KeyKind prog w K) (es : List (Int × Value)) (l : List K) : Prop := KeysAre knd.hash (scanIs knd) es l
theorem ScanKeys.elems {l : List K} {es : List (Int × Value)} (h : ScanKeys knd es l) : ElemsOf knd es := by
 intro e he
 refine x11 (List.mem_iff_getElem?.mp he) fun i hi => ?_
 have hlt : i < es.length := (List.getElem?_eq_some_iff.mp hi).1
 have hl : i < l.length := by have := h.1; lia
 have := h.2 i e l[i] hi (List.getElem?_eq_getElem hl)
 exact ⟨⟨l[i], this.2.1, this.1⟩, this.2.2⟩
theorem ScanKeys.mem {l : List K} {es : List (Int × Value)} (h : ScanKeys knd es l) (k : K) : k ∈ l ↔ ∃ e ∈ es, knd.is k e.2 = true := by
 have hlen : es.length = l.length := h.1
 constructor
 ·intro hk
  refine x11 (List.mem_iff_getElem?.mp hk) fun i hi => ?_
  have hlt : i < l.length := (List.getElem?_eq_some_iff.mp hi).1
  have hel : i < es.length := by lia
  exact ⟨es[i], List.getElem_mem hel, (h.2 i es[i] k (List.getElem?_eq_getElem hel) hi).2.1⟩
 ·rintro q82; refine x12 q82 fun e he hke => ?_
  refine x11 (List.mem_iff_getElem?.mp he) fun i hi => ?_
  have hlt : i < es.length := (List.getElem?_eq_some_iff.mp hi).1
  have hl : i < l.length := by lia
  have := (h.2 i e l[i] hi (List.getElem?_eq_getElem hl)).2.1
  rw [knd.inj _ _ _ hke this]
  exact List.getElem_mem hl
theorem sfind_scan {l : List K} {Q : Option Nat -> Shared -> Prop} (hkey : knd.is k x = true) (hsc : x.scannable = true) (ho : s.heap.get? a = some o) (b : SetBe lim o es t) (hK : ScanKeys knd es.toList l)
  (h : ∀ r : Option Nat, r.isSome = decide (k ∈ l) -> Q r s) : wpAny (model prog w) A (setFind a x (knd.hash k)) Q E s := by
 refine hidG fun GG hGG => ?_
 obtain ⟨ep, rfl, ok⟩ := b
 refine hGG ?_
 refine wpAny_setFind_of (S := fun k => decide (k ∈ l)) (n := es.size) hkey hsc ⟨_, es, ep, t, ho, setO_exact _ _ _, rfl, hK.elems, fun k => ?_, ?_, ok.fits, rfl⟩ h
 ·rw [decide_eq_true_eq]; exact hK.mem k
 ·have := ok.le; have := ok.lim18; have : scanBound = 4096 := rfl; lia
theorem sadd_scan {l : List K} {Q : Bool -> Shared -> Prop} (hkey : knd.is k x = true) (hsc : x.scannable = true) (ho : s.heap.get? a = some o) (b : SetBe lim o es t) (hK : ScanKeys knd es.toList l)
  (hl : k ∉ l -> es.size + 1 ≤ lim) (hold : k ∈ l -> Q false s) (hnew : k ∉ l -> ∀ h', Added lim a s.heap es t (knd.hash k) x h' -> Q true { s with heap := h' }) :
  wpAny (model prog w) A (setAddHashed a x (knd.hash k)) Q E s := by
 obtain ⟨ep, rfl, ok⟩ := b
 have hsb : scanBound = 4096 := rfl
 have hel := hK.elems
 have hb : es.size < scanBound := by have := ok.le; have := ok.lim18; lia
 skip
 refine wpAny_holding (wpAny_bind (wpAny_setState_of ho rfl ok.fits ?_))
 dsimp only
 refine (byScan_of hsc hb hel).symm ▸ ?_
 skip
 refine wpAny_bind ?_
 refine wpAny_bind (wpAny_rule ?_)
 refine wpAny_bind (wpAny_setScan_of hkey ho rfl ok.fits hel ?_)
 cases hr : List.findIdx? (fun e => knd.is k e.2) es.toList with
 | some j =>
  skip
  refine x12 (List.findIdx?_eq_some_iff_getElem.mp hr) fun hj hpj _ => ?_
  exact wpAny_pure (wpAny_pure (hold ((hK.mem k).mpr ⟨es.toList[j], List.getElem_mem hj, hpj⟩)))
 | none =>
  skip
  have hkl : k ∉ l := fun hk => by
   refine x12 ((hK.mem k).mp hk) fun e he hp => ?_
   have := List.findIdx?_eq_none_iff.mp hr e he
   rw [hp] at this; exact Bool.noConfusion this
  refine hidG fun GG hGG => ?_
  refine x26 (layNew_good ok.good ok.room (knd.hash k) x) fun es1 t1 he hp g1 hm hled hpl => ?_
  refine hGG ?_
  refine (he).symm ▸ ?_
  skip
  refine wpAny_bind (wpAny_pure (a := ()) ?_)
  split
  ·rename_i hplain
   refine wpAny_bind ?_
   refine (hashByValue_scannable 8 hsc).symm ▸ ?_
   refine wpAny_pure ?_
   refine storeAdd (t1 := if plainKind x = true then t1 else { t1 with plain := false }) ?_ ho ok (hl hkl) hp ?_ ?_ ?_ ?_ ?_
   ·intro b sz1 Q' hq; cases b <;> first | exact wpAny_pure hq | exact wpAny_rule hq
   ·split
    ·exact g1
    ·exact ⟨g1.mask, g1.dum, g1.size, g1.rise, g1.top, g1.room, g1.chain⟩
   ·split <;> exact hm
   ·split <;> exact hled
   ·intro h1 h2; rw [if_pos h2, hpl]; exact h1
   ·intro h' ad; skip; exact wpAny_pure (hnew hkl h' ad)
  ·rename_i hplain
   refine wpAny_bind (wpAny_pure ?_)
   refine storeAdd ?_ ho ok (hl hkl) hp g1 hm hled ?_ ?_
   ·intro b sz1 Q' hq; cases b <;> first | exact wpAny_pure hq | exact wpAny_rule hq
   ·intro h1 _; refine (hpl).symm ▸ ?_; exact h1
   ·intro h' ad; skip; exact wpAny_pure (hnew hkl h' ad)
end
end
-- SetOp3
section
open PySem
open PySem.SetTable
section
variable {prog : Program} {w : World} {A : Around} {E : Value -> Shared -> Prop} {s : Shared} {a : Addr} {lim : Nat} {o : Obj} {es : Array (Int × Value)} {t : SetTable}
noncomputable abbrev IsTI (h : Heap) (ns : List Int) (a : Addr) : Prop := ∃ (o : Obj) (items : Array Value) (n : Nat), h.get? a = some o /\ o.cls = .type "tuple" /\ o.data = .seq items n /\ ∃ ts : List Tok, ts.length = ns.length /\ items.toList = (ns.zip ts).map fun x => .int x.1 x.2
theorem items_of (prog : Program) (w : World) : ∀ (ns : List Int) (ts : List Tok), ts.length = ns.length -> ItemsAre (intKind prog w) ns ((ns.zip ts).map fun x => Value.int x.1 x.2)
 | [], [], _ => .nil
 | n :: ns, t :: ts, h => .cons (by simp [intKind, Value.isInt]) (items_of prog w ns ts (by simpa using h))
 | [], _ :: _, h => by simp at h
 | _ :: _, [], h => by simp at h
theorem IsTI.key {h : Heap} {ns : List Int} {a : Addr} (x : IsTI h ns a) : IsTupleKey (intKind prog w) h ns a := by
 refine hidG fun GG hGG => ?_
 obtain ⟨o, items, n, ho, hc, hd, ts, hl, hi⟩ := x
 refine hGG ?_
 exact ⟨o, items, n, ho, hc, hd, hi ▸ items_of prog w ns ts hl⟩
theorem IsTI.inj {h : Heap} {x y : List Int} {a : Addr} (hx : IsTI h x a) (hy : IsTI h y a) : x = y :=
 (IsTI.key (prog := (default : Program)) (w := ⟨fun _ _ => 0, { strHash := fun _ => 0, shareClass := fun _ => 0, mergeTok := id, idOf := fun _ => 0, idOfShared := fun _ _ => 0, followText := fun _ => false, idOfImm := fun _ => 0 }⟩) hx).inj (IsTI.key hy)
theorem IsTI.keep {h h' : Heap} {ns : List Int} {a : Addr} (x : IsTI h ns a) (e : ∀ o, h.get? a = some o -> h'.get? a = some o) : IsTI h' ns a :=
 let ⟨o, i, n, ho, r⟩ := x; ⟨o, i, n, e o ho, r⟩
theorem IsTI.typeIs {ns : List Int} {a : Addr} (x : IsTI s.heap ns a) : s.TypeIs (.ref a) "tuple" := x33 (x) fun o _ _ ho hc _ => ⟨o, ho, hc⟩
noncomputable def thash (ns : List Int) : Int := reduceHash (Builtin.Tuple.tupleHashOf (ns.map hashInt))
theorem t_hash {ns : List Int} {a : Addr} {Q : Int -> Shared -> Prop} (hu : A.units < cLine) (hk : IsTI s.heap ns a) (h : ∀ tk, Q (thash ns) { s with toks := tk }) :
  wpAny (model prog w) A (pyHash (.ref a)) Q E s := wpAny_pyHash_tuple hu (hk.key (prog := prog) (w := w)) (h _)
theorem t_eq {x y : List Int} {a b : Addr} {Q : Bool -> Shared -> Prop} (hu : A.units < cLine) (hx : IsTI s.heap x a) (hy : IsTI s.heap y b) (h : Q (decide (x = y)) s) :
  wpAny (model prog w) A (eqBool (.ref a) (.ref b)) Q E s := wpAny_eqBool_tuple hu (hx.key (prog := prog) (w := w)) hy.key h
theorem t_quiet {ns : List Int} {a : Addr} {Q : Bool -> Shared -> Prop} (hk : IsTI s.heap ns a) (h : Q true s) : wpAny (model prog w) A (eqIsQuiet 8 (.ref a)) Q E s :=
 wpAny_eqIsQuiet_tuple (hk.key (prog := prog) (w := w)) h
theorem isTI_items {ns : List Int} {ts : List Tok} {v : Value} (hv : v ∈ (ns.zip ts).map fun x => Value.int x.1 x.2) : ∃ n t, v = .int n t := by
 refine x12 (List.mem_map.mp hv) fun x _ q91 => ?_; subst q91
 exact ⟨_, _, rfl⟩
theorem ite2 {α : Type} {M : Model} {A : Around} {E : Value -> Shared -> Prop} {s : Shared} {Q : α -> Shared -> Prop} {c : Prop} [Decidable c] {P X : Sem α} (h1 : wpAny M A P Q E s) (h2 : wpAny M A X Q E s) : wpAny M A (if c then P else X) Q E s := by
 by_cases h : c
 ·rw [if_pos h]; exact h1
 ·rw [if_neg h]; exact h2
theorem br {α : Type} {M : Model} {A : Around} {E : Value -> Shared -> Prop} {s : Shared} {Q : α -> Shared -> Prop} {c : Prop} [Decidable c] {P X : Sem α} (h1 : wpAny M A X Q E s -> wpAny M A P Q E s) (h2 : wpAny M A X Q E s) : wpAny M A (if c then P else X) Q E s := ite2 (h1 h2) h2
theorem t_notNamed {ns : List Int} {a : Addr} {Q : Bool -> Shared -> Prop} (hk : IsTI s.heap ns a) (h : Q false s) : wpAny (model prog w) A (ofAClassStatement 8 (.ref a)) Q E s := by
 have hT := hk.typeIs
 obtain ⟨o, items, n, ho, hc, hd, ts, hl, hi⟩ := hk
 unfold ofAClassStatement
 refine wpAny_bind (wpAny_typeOf hT ?_)
 refine wpAny_ite_true (by first | rfl | simp) ?_
 refine wpAny_bind (wpAny_pure ?_)
 refine wpAny_ite_false (by first | rfl | simp) ?_
 refine wpAny_bind (wpAny_seqItems ho hd ?_)
 skip
 refine wpAny_bind ?_
 show wpAny _ _ (forIn items _ _) _ _ s
 rw [← Array.forIn_toList]
 refine wpAny_forIn_list _ (fun rest r s' => Chu (fun G => r.1 = none -> (∀ v ∈ rest, ∃ n t, v = Value.int n t) -> G s) s') _ ?_ ?_ _ _ (fun _ k9 => k9 rfl fun v hv => isTI_items (hi ▸ hv))
 ·rintro v rest r s' q80; refine Chu.out q80 ?_; intro hr hall
  refine x21 (hall v List.mem_cons_self) fun n t q92 => ?_; subst q92
  refine wpAny_bind ?_
  refine wpAny_pure ?_
  refine wpAny_ite_false (by first | rfl | rfl) ?_
  exact wpAny_pure (fun _ k9 => k9 rfl fun u hu' => hall u (List.mem_cons_of_mem _ hu'))
 ·rintro ⟨r1, r2⟩ s' q80; refine Chu.out q80 ?_; intro hr _
  dsimp only at hr
  subst hr
  exact wpAny_pure h
theorem t_byValue {ns : List Int} {a : Addr} {Q : Bool -> Shared -> Prop} (hk : IsTI s.heap ns a) (h : Q true s) : wpAny (model prog w) A (hashByValue 8 (.ref a)) Q E s := by
 have hT := hk.typeIs
 obtain ⟨o, items, n, ho, hc, hd, ts, hl, hi⟩ := hk
 refine wpAny_bind (wpAny_specialOf hT PySem.F.slot_tuple_hash.lookup ?_)
 refine (?_ : wpAny _ _ (seqItems? (.ref a) >>= _) _ _ s)
 refine wpAny_bind (wpAny_seqItems ho hd ?_)
 skip
 refine wpAny_bind ?_
 show wpAny _ _ (forIn items _ _) _ _ s
 rw [← Array.forIn_toList]
 refine wpAny_forIn_list _ (fun rest r s' => Chu (fun G => r.1 = none -> (∀ v ∈ rest, ∃ n t, v = Value.int n t) -> G s) s') _ ?_ ?_ _ _ (fun _ k9 => k9 rfl fun v hv => isTI_items (hi ▸ hv))
 ·rintro v rest r s' q80; refine Chu.out q80 ?_; intro hr hall
  refine x21 (hall v List.mem_cons_self) fun n t q93 => ?_; subst q93
  refine wpAny_bind ?_
  refine wpAny_pure ?_
  refine wpAny_ite_false (by first | rfl | rfl) ?_
  exact wpAny_pure (fun _ k9 => k9 rfl fun u hu' => hall u (List.mem_cons_of_mem _ hu'))
 ·rintro ⟨r1, r2⟩ s' q80; refine Chu.out q80 ?_; intro hr _
  dsimp only at hr
  subst hr
  exact wpAny_pure h
theorem same_ref {b : Addr} {Q : Bool -> Shared -> Prop} (h : Q true s) : wpAny (model prog w) A (isSame (.ref b) (.ref b)) Q E s := by
 show wpAny _ _ (ite _ _ _) _ _ _
 refine wpAny_ite_true (by first | rfl | simp) ?_
 exact wpAny_pure h
noncomputable abbrev tupIs (h : Heap) (k : List Int) (v : Value) : Prop := ∃ b, v = .ref b /\ IsTI h k b
noncomputable abbrev TupKeys (h : Heap) (es : List (Int × Value)) (l : List (List Int)) : Prop := KeysAre thash (tupIs h) es l
theorem seen_quiet {x : Addr} {kx : List Int} (hx : IsTI s.heap kx x) (stored : List Value) (hst : ∀ v ∈ stored, ∃ k b, v = .ref b /\ IsTI s.heap k b) {Q : Bool -> Shared -> Prop} (h : Q false s) :
  wpAny (model prog w) A (searchCouldBeSeen (.ref x) stored) Q E s := by
 refine wpAny_bind ?_
 refine wpAny_forIn_list _ (fun rest r s' => Chu (fun G => r.1 = none -> (∀ v ∈ rest, ∃ k b, v = Value.ref b /\ IsTI s.heap k b) -> G s) s') _ ?_ ?_ _ _ (fun _ k9 => k9 rfl hst)
 ·rintro v rest r s' q80; refine Chu.out q80 ?_; intro hr hall
  refine x22 (hall v List.mem_cons_self) fun k b q94 hb => ?_; subst q94
  have hrest : ∀ v ∈ rest, ∃ k b, v = Value.ref b /\ IsTI s.heap k b := fun v hv => hall v (List.mem_cons_of_mem _ hv)
  skip
  refine ite2 (wpAny_pure (fun _ k9 => k9 rfl hrest)) ?_
  ·refine wpAny_bind (t_quiet hx ?_)
   refine wpAny_ite_false (by first | rfl | rfl) ?_
   refine wpAny_bind (t_quiet hb ?_)
   refine wpAny_ite_false (by first | rfl | rfl) ?_
   refine wpAny_bind (t_notNamed hx ?_)
   refine wpAny_ite_false (by first | rfl | rfl) ?_
   refine wpAny_bind (t_notNamed hb ?_)
   refine wpAny_ite_false (by first | rfl | rfl) ?_
   exact wpAny_pure (fun _ k9 => k9 rfl hrest)
 ·rintro ⟨r1, r2⟩ s' q80; refine Chu.out q80 ?_; intro hr _
  dsimp only at hr
  subst hr
  exact wpAny_pure h
theorem stored_at (es : Array (Int × Value)) : ∀ i, ((es[i]?.map (·.1)).getD 0) = (hsOf es).getD i 0 := fun i => by
 rw [← hsOf_get, List.getD_eq_getElem?_getD]
theorem t_search {l : List (List Int)} {k : List Int} {x : Addr} {adding : Bool} {Q : SetFound -> Shared -> Prop} (hu : A.units < cLine) (hx : IsTI s.heap k x) (ho : s.heap.get? a = some o) (b : SetBe lim o es t) (hK : TupKeys s.heap es.toList l)
  (hinj : ∀ k' ∈ l, thash k' = thash k -> k' = k) (hnd : l.Nodup)
  (hthere : k ∈ l -> ∀ i : Option Nat, (adding = false -> i.isSome = true) -> Q (.there i) s)
  (hfree : k ∉ l -> ∀ j pre post, chainL t.mask (thash k) = pre ++ j :: post -> j ∉ t.place.toList -> (∀ y ∈ pre, y ∈ t.place.toList) -> Q (.free j false) s) :
  wpAny (model prog w) A (setSearch a (.ref x) (thash k) adding) Q E s := by
 obtain ⟨ep, rfl, ok⟩ := b
 have hlen : es.size = l.length := by have := hK.1; simpa using this
 unfold setSearch
 refine (show (100000 : Nat) = 99999 + 1 from rfl).symm ▸ ?_
 refine wpAny_bind (wpAny_setState_of ho rfl ok.fits ?_)
 skip
 refine wpAny_ite_false (decide_eq_false fun q => absurd (ok.good.notGave ▸ q) Bool.false_ne_true) ?_
 dsimp only [Option.getD_none]
 by_cases hk : k ∈ l
 ·refine x11 (List.mem_iff_getElem?.mp hk) fun i hi => ?_
  have hilt : i < l.length := (List.getElem?_eq_some_iff.mp hi).1
  have hies : i < es.toList.length := by rw [hK.1]; exact hilt
  obtain ⟨eh, y, ey, hy⟩ := hK.2 i es.toList[i] k (List.getElem?_eq_getElem hies) hi
  have hh : (hsOf es)[i]? = some (thash k) := by rw [hsOf_get, ← Array.getElem?_toList, List.getElem?_eq_getElem hies, Option.map_some, eh]
  have huniq : ∀ k' : Nat, (hsOf es)[k']? = some (thash k) -> k' = i := by
   intro k' hk'
   rw [hsOf_get, ← Array.getElem?_toList] at hk'
   cases he : es.toList[k']? with
   | none => rw [he] at hk'; cases hk'
   | some e =>
    rw [he] at hk'
    simp only [Option.map_some, Option.some.injEq] at hk'
    have hlt' : k' < es.toList.length := (List.getElem?_eq_some_iff.mp he).1
    have hl' : k' < l.length := by refine (hK.1) ▸ ?_; exact hlt'
    have := hK.2 k' e l[k'] he (List.getElem?_eq_getElem hl')
    have e1 : l[k'] = k := hinj _ (List.getElem_mem hl') (by rw [← this.1, hk'])
    have e2 : l[k']? = l[i]? := by rw [hi, List.getElem?_eq_getElem hl', e1]
    exact (List.getElem?_inj hl' hnd).mp e2
  refine x22 (ok.good.probe_there (fun i => (es[i]?.map (·.1)).getD 0) hh (fun k' _ => stored_at es k') huniq) fun j q hp hsl => ?_
  generalize hg : t.probe _ (thash k) (t.probeStart (thash k)) = r
  obtain rfl : r = _ := hg.symm.trans hp
  skip
  have hyi : es[i]? = some (thash k, .ref y) := by rw [← Array.getElem?_toList, List.getElem?_eq_getElem hies, ← eh, ← ey]
  have hst : ∀ v ∈ (es.filter (·.1 == thash k)).toList.map (·.2), ∃ k' b', v = .ref b' /\ IsTI s.heap k' b' := by
   intro v hv
   refine x12 (List.mem_map.mp hv) fun e he q96 => ?_; subst q96
   rw [Array.toList_filter, List.mem_filter] at he
   obtain ⟨k', _, _, b', e', h'⟩ := hK.mem_left he.1
   exact ⟨k', b', e', h'⟩
  refine br (fun fin => wpAny_bind (seen_quiet hx _ hst (wpAny_ite_false (by first | rfl | simp) fin))) ?_
  refine (hyi).symm ▸ ?_
  skip
  refine wpAny_bind (wpAny_holding (t_eq hu hy hx ?_))
  refine wpAny_bind (wpAny_setState_of ho rfl ok.fits ?_)
  skip
  cases adding with
  | true =>
   refine wpAny_ite_true (by first | rfl | simp) ?_
   exact wpAny_pure (hthere hk none (fun e => by cases e))
  | false =>
   refine wpAny_ite_false (by first | rfl | simp) ?_
   have hsm : t.sameMemory t.moves t.mask = some true := by unfold SetTable.sameMemory; simp
   refine (hsm).symm ▸ ?_
   simp only [if_true]
   rw [hsl]
   dsimp only
   rw [hyi]
   dsimp only
   refine wpAny_bind (same_ref (wpAny_bind (wpAny_pure ?_)))
   refine wpAny_ite_true (by first | rfl | simp) ?_
   exact wpAny_pure (hthere hk (some i) (fun _ => rfl))
 ·have hne : ∀ i, i < (hsOf es).length -> ((es[i]?.map (·.1)).getD 0) ≠ thash k := by
   intro i hi e
   rw [hsOf_len] at hi
   have hies : i < es.toList.length := by simpa using hi
   have hl' : i < l.length := by refine (hK.1) ▸ ?_; exact hies
   have := hK.2 i es.toList[i] l[i] (List.getElem?_eq_getElem hies) (List.getElem?_eq_getElem hl')
   rw [← Array.getElem?_toList, List.getElem?_eq_getElem hies, Option.map_some, Option.getD_some, this.1] at e
   exact hk (hinj _ (List.getElem_mem hl') e ▸ List.getElem_mem hl')
  refine hidG fun GG hGG => ?_
  refine x34 (ok.good.probe_free (fun i => (es[i]?.map (·.1)).getD 0) (thash k) hne) fun j pre post hp e hj hpre => ?_
  refine hGG ?_
  generalize hg : t.probe _ (thash k) (t.probeStart (thash k)) = r
  obtain rfl : r = _ := hg.symm.trans hp
  skip
  exact wpAny_pure (hfree hk j pre post e hj hpre)
end
end
-- SetOp4
section
open PySem
open PySem.SetTable
section
variable {prog : Program} {w : World} {A : Around} {E : Value -> Shared -> Prop} {s : Shared} {a : Addr} {lim : Nat} {o : Obj} {es : Array (Int × Value)} {t : SetTable}
theorem full_seven {es' : Array (Int × Value)} {t' : SetTable} (ok : TabOk lim es t) (hsz : es'.size = es.size + 1) (hl : es.size + 1 ≤ lim) (g : GoodT t' (hsOf es')) (hm : t'.mask = t.mask) (htf : t'.tooFull = true) : t.mask = 7 /\ es'.size = 5 := by
 have hfill : t'.fill = es'.size := by rw [g.fill, hsOf_len]
 unfold SetTable.tooFull at htf
 rw [hfill, hm] at htf
 have hge : t.mask * 3 ≤ es'.size * 5 := by simpa using htf
 have hlt := ok.notFull
 have hlim := ok.lim18
 rcases ok.good.mask with h | h | h
 ·rw [h] at hge hlt; lia
 ·rcases ok.lim15 with q | q
  ·rw [h] at hge; lia
  ·exact absurd h q
 ·rw [h] at hge; lia
inductive Relaid (a : Addr) (h : Heap) (es : Array (Int × Value)) (t : SetTable) (wanted : Nat) (h' : Heap) : Prop
 | mk : Heap.SameBut a h h' -> ∀ ep' es' t', h'.get? a = some (setO es' ep' t') -> GoodT t' (hsOf es') -> t'.mask = sizeAbove wanted - 1 -> es'.toList.Perm es.toList -> t'.led = t.led -> t'.plain = t.plain -> Relaid a h es t wanted h'
theorem relay_ok {ep wanted : Nat} {Q : Unit -> Shared -> Prop} (ho : s.heap.get? a = some (setO es ep t)) (hf : t.fits es.size = true) (hw : wanted < 32) (hn : es.size ≤ sizeAbove wanted - 1)
  (h : ∀ h', Relaid a s.heap es t wanted h' -> Q () { s with heap := h' }) : wpAny (model prog w) A (setRelay a wanted) Q E s := by
 refine x27 (relaid_good (t := t) (es := es) (wanted := wanted) (mask_of_small hw) hn) fun t' order e hp hpe g a1 a2 a3 => ?_
 skip
 refine wpAny_bind (wpAny_setState_of ho rfl hf ?_)
 skip
 have hsa : ¬ sizeAbove wanted > sizeLine := by rw [sizeAbove_small hw, sizeLine_eq]; split <;> (try split) <;> lia
 refine wpAny_ite_false (decide_eq_false hsa) ?_
 have hsz : (order.filterMap (es[·]?)).size = es.size := by rw [← Array.length_toList, hpe.length_eq, Array.length_toList]
 refine wpAny_bind ?_
 refine (e).symm ▸ ?_
 refine (?_ : wpAny _ _ (if ((order.filterMap (es[·]?)).size != es.size) = true then _ else _) _ E s)
 refine wpAny_ite_false (decide_eq_false (by simp [hsz])) ?_
 refine wpAny_pure ?_
 skip
 have hz : (order.filterMap (es[·]?)).size ≤ sizeLine := by rw [hsz, sizeLine_eq]; rw [sizeAbove_small hw] at hn; split at hn <;> (try split at hn) <;> lia
 refine wpAny_storeSet_of ho rfl (h _ ⟨Heap.SameBut.update _ _ _, _, _, _, upd_get ho _ _, g, a1, hpe, a2, a3⟩) hz
theorem sfind_tup {l : List (List Int)} {k : List Int} {x : Addr} {Q : Option Nat -> Shared -> Prop} (hu : A.units < cLine) (hx : IsTI s.heap k x) (ho : s.heap.get? a = some o) (b : SetBe lim o es t) (hK : TupKeys s.heap es.toList l)
  (hinj : ∀ k' ∈ l, thash k' = thash k -> k' = k) (hnd : l.Nodup) (h : ∀ r : Option Nat, r.isSome = decide (k ∈ l) -> Q r s) :
  wpAny (model prog w) A (setFind a (.ref x) (thash k)) Q E s := by
 unfold setFind
 rw [show (100000 : Nat) = 99999 + 1 from rfl]
 unfold setFindIn
 refine wpAny_bind (b.state ho fun ep _ => ?_)
 dsimp only
 have hb : byScan (.ref x) es = false := rfl
 refine (hb).symm ▸ ?_
 refine wpAny_ite_false (by first | rfl | simp) ?_
 refine wpAny_bind (t_search hu hx ho b hK hinj hnd (fun hk i hi => ?_) fun hk j pre post _ _ _ => ?_)
 ·exact wpAny_pure (h i (by rw [hi rfl]; simp [hk]))
 ·exact wpAny_pure (h none (by simp [hk]))
theorem sadd_tup {l : List (List Int)} {k : List Int} {x : Addr} {Q : Bool -> Shared -> Prop} (hu : A.units < cLine) (hx : IsTI s.heap k x) (ho : s.heap.get? a = some o) (b : SetBe lim o es t) (hK : TupKeys s.heap es.toList l)
  (hinj : ∀ k' ∈ l, thash k' = thash k -> k' = k) (hnd : l.Nodup) (hl : k ∉ l -> es.size + 1 ≤ lim) (hold : k ∈ l -> Q false s)
  (hnew : k ∉ l -> ∀ h' o' es' t', Heap.SameBut a s.heap h' -> h'.get? a = some o' -> SetBe lim o' es' t' -> es'.toList.Perm ((thash k, .ref x) :: es.toList) -> t'.led = t.led -> (t.plain = true -> t'.plain = true) -> Q true { s with heap := h' }) :
  wpAny (model prog w) A (setAddHashed a (.ref x) (thash k)) Q E s := by
 unfold setAddHashed
 rw [show (100000 : Nat) = 99999 + 1 from rfl]
 skip
 refine wpAny_holding (wpAny_bind (b.state ho fun ep _ => ?_))
 skip
 have hb : byScan (.ref x) es = false := rfl
 refine (hb).symm ▸ ?_
 refine wpAny_ite_false (by first | rfl | rfl) ?_
 refine wpAny_bind (t_search hu hx ho b hK hinj hnd (fun hk i hi => ?_) fun hk j pre post e hj hpre => ?_)
 ·exact wpAny_pure (hold hk)
 ·skip
  obtain ⟨ep, rfl, ok⟩ := b
  refine wpAny_bind (wpAny_setState_of ho rfl ok.fits ?_)
  skip
  refine x02 (ok.good.put e hj hpre (by rw [hsOf_len]; exact ok.room)) fun hle g' => ?_
  have hes : hsOf (insertAt es (t.put j).2 (thash k, .ref x)) = (hsOf es).take (t.put j).2 ++ thash k :: (hsOf es).drop (t.put j).2 := by
   unfold hsOf
   rw [SetTable.toList_insertAt, List.map_append, List.map_cons, List.map_take, List.map_drop]
  have hperm : (insertAt es (t.put j).2 (thash k, .ref x)).toList.Perm ((thash k, .ref x) :: es.toList) := by
   rw [SetTable.toList_insertAt]
   refine List.perm_middle.trans ?_
   rw [List.take_append_drop]
  rw [← hes] at g'
  have hsz : (insertAt es (t.put j).2 (thash k, .ref x)).size = es.size + 1 := by rw [← Array.length_toList, hperm.length_eq]; rfl
  have hz : (insertAt es (t.put j).2 (thash k, .ref x)).size ≤ sizeLine := by rw [hsz, sizeLine_eq]; have := ok.le; have := ok.lim18; lia
  have go : wpAny (model prog w) A (do
    storeSet a (insertAt es (t.put j).2 (thash k, .ref x)) (t.put j).1
    if (!false && (t.put j).1.tooFull) = true then do
     setRelay a (grown (es.size + 1))
     pure true
    else pure true) Q E s := by
   refine wpAny_bind (wpAny_storeSet_of ho rfl ?_ hz)
   have ho1 := upd_get ho (insertAt es (t.put j).2 (thash k, .ref x)) (t.put j).1
   cases htf : (t.put j).1.tooFull with
   | false =>
    refine wpAny_ite_false (by first | rfl | simp) ?_
    refine wpAny_pure (hnew hk _ _ _ _ (Heap.SameBut.update _ _ _) ho1 ⟨_, rfl, g', ?_, by rw [hsz]; exact hl hk, ok.lim18, ok.lim15⟩ hperm rfl id)
    unfold SetTable.tooFull at htf
    rw [g'.fill, hsOf_len] at htf
    simpa using htf
   | true =>
    refine wpAny_ite_true (by first | rfl | simp) ?_
    have h7 := full_seven ok hsz (hl hk) g' rfl htf
    have hes4 : es.size = 4 := by lia
    have hg : grown (es.size + 1) = 20 := by rw [hes4]; rfl
    refine (hg).symm ▸ ?_
    have h31 : sizeAbove 20 - 1 = 31 := by decide +kernel
    refine wpAny_bind (relay_ok ho1 (by rw [← hsOf_len]; exact g'.fits) (by decide) (by rw [h31, h7.2]; decide) fun h' hr => ?_)
    obtain ⟨hsb, ep', es', t', ho', g2, hm, hp2, hled, hpl⟩ := hr
    have hsz2 : es'.size = 5 := by rw [← Array.length_toList, hp2.length_eq, Array.length_toList]; exact h7.2
    exact wpAny_pure (hnew hk h' _ es' t' ((Heap.SameBut.update _ _ _).trans hsb) ho' ⟨ep', rfl, g2, by rw [hm, h31, hsz2]; decide, by have := hl hk; lia, ok.lim18, .inr (by rw [hm, h31]; decide)⟩ (hp2.trans hperm) hled (fun q => by rw [hpl]; exact q))
  refine (?_ : wpAny _ _ (if t.plain = true then _ else _) _ _ _)
  split
  ·refine wpAny_bind (t_byValue hx ?_)
   dsimp only [if_true]
   exact go
  ·refine wpAny_bind (wpAny_pure ?_)
   dsimp only [if_true]
   exact go
end
end
-- SetK
section
open PySem
open PySem.SetTable
noncomputable def TupO (o : Obj) : Prop := o.cls = .type "tuple" /\ ∃ items n, o.data = .seq items n
noncomputable def TupKeep (h h' : Heap) : Prop := ∀ b o, h.get? b = some o -> TupO o -> h'.get? b = some o
theorem TupKeep.refl (h : Heap) : TupKeep h h := fun _ _ e _ => e
theorem TupKeep.trans {h h' h'' : Heap} (x : TupKeep h h') (y : TupKeep h' h'') : TupKeep h h'' := fun b o e c => y b o (x b o e c) c
theorem TupKeep.of_same {h h' : Heap} {d : Addr} {o : Obj} (hs : Heap.SameBut d h h') (ho : h.get? d = some o) (hc : o.cls ≠ .type "tuple") : TupKeep h h' := fun b o' e c => by
 have : b ≠ d := by rintro rfl; rw [ho] at e; cases e; exact hc c.1
 exact (hs.2 b this).trans e
theorem TupKeep.of_stays {h h' : Heap} (k : ∀ b o, h.get? b = some o -> h'.get? b = some o) : TupKeep h h' := fun b o e _ => k b o e
theorem IsTI.tk {h h' : Heap} {ns : List Int} {a : Addr} (x : IsTI h ns a) (e : TupKeep h h') : IsTI h' ns a :=
 let ⟨o, i, n, ho, hc, hd, r⟩ := x; ⟨o, i, n, e a o ho ⟨hc, i, n, hd⟩, hc, hd, r⟩
inductive AddedS (pl : Bool) (lim : Nat) (a : Addr) (h : Heap) (es : Array (Int × Value)) (t : SetTable) (hx : Int) (x : Value) (h' : Heap) : Prop
 | mk : Heap.SameBut a h h' -> ∀ o' es' t', h'.get? a = some o' -> SetBe lim o' es' t' -> es'.toList.Perm ((hx, x) :: es.toList) -> t'.led = t.led -> (pl = true -> t.plain = true -> t'.plain = true) -> AddedS pl lim a h es t hx x h'
theorem AddedS.fst {pl : Bool} {lim : Nat} {a : Addr} {h h' : Heap} {es : Array (Int × Value)} {t : SetTable} {hx : Int} {x : Value} : AddedS pl lim a h es t hx x h' -> Heap.SameBut a h h'
 | ⟨q, _, _, _, _, _, _, _, _⟩ => q
structure SKind (prog : Program) (w : World) (K : Type) [DecidableEq K] where
 hash : K -> Int
 is : Heap -> K -> Value -> Prop
 ok : K -> Prop
 pl : Bool
 keep : ∀ {h h' : Heap} {k : K} {v : Value}, is h k v -> TupKeep h h' -> is h' k v
 pyHash : ∀ {A : Around} {E : Value -> Shared -> Prop} {s : Shared} {k : K} {v : Value} {Q : Int -> Shared -> Prop}, A.units < cLine -> is s.heap k v -> (∀ tk, Q (hash k) { s with toks := tk }) -> wpAny (model prog w) A (PySem.pyHash v) Q E s
 find : ∀ {A : Around} {E : Value -> Shared -> Prop} {s : Shared} {a : Addr} {lim : Nat} {o : Obj} {es : Array (Int × Value)} {t : SetTable} {l : List K} {k : K} {x : Value} {Q : Option Nat -> Shared -> Prop},
  A.units < cLine -> ok k -> (∀ k' ∈ l, ok k') -> is s.heap k x -> s.heap.get? a = some o -> SetBe lim o es t -> KeysAre hash (is s.heap) es.toList l -> l.Nodup ->
  (∀ r : Option Nat, (r.isSome = true ↔ k ∈ l) -> Q r s) -> wpAny (model prog w) A (setFind a x (hash k)) Q E s
 add : ∀ {A : Around} {E : Value -> Shared -> Prop} {s : Shared} {a : Addr} {lim : Nat} {o : Obj} {es : Array (Int × Value)} {t : SetTable} {l : List K} {k : K} {x : Value} {Q : Bool -> Shared -> Prop},
  A.units < cLine -> ok k -> (∀ k' ∈ l, ok k') -> is s.heap k x -> s.heap.get? a = some o -> SetBe lim o es t -> KeysAre hash (is s.heap) es.toList l -> l.Nodup ->
  (k ∉ l -> es.size + 1 ≤ lim) -> (k ∈ l -> Q false s) -> (k ∉ l -> ∀ h', AddedS pl lim a s.heap es t (hash k) x h' -> Q true { s with heap := h' }) -> wpAny (model prog w) A (setAddHashed a x (hash k)) Q E s
noncomputable def skInt (prog : Program) (w : World) : SKind prog w Int where
 hash := hashInt
 is := fun _ n v => ∃ t, v = .int n t
 ok := fun _ => True
 pl := true
 keep := fun x _ => x
 pyHash := fun _ x h => by
  obtain ⟨t, rfl⟩ := x
  exact wpAny_pyHash_int (h _)
 find := fun {A E s a lim o es t l k x Q} _ _ _ x ho b hK _ h => by
  obtain ⟨tk, rfl⟩ := x
  refine sfind_scan (knd := intKind prog w) (x := .int k tk) (by simp [intKind, Value.isInt]) rfl ho b (hK.mono fun k v hv => ?_) fun r hr => h r (by rw [hr]; simp)
  refine x11 hv fun t' q93 => ?_; subst q93
  exact ⟨by simp [intKind, Value.isInt], rfl⟩
 add := fun {A E s a lim o es t l k x Q} _ _ _ x ho b hK _ hl h1 h2 => by
  refine x11 x fun tk q94 => ?_; subst q94
  refine sadd_scan (knd := intKind prog w) (x := .int k tk) (l := l) (by simp [intKind, Value.isInt]) rfl ho b (hK.mono fun k v hv => ?_) hl h1 fun hk h' ad => h2 hk h' ?_
  ·refine x11 hv fun t' q95 => ?_; subst q95
   exact ⟨by simp [intKind, Value.isInt], rfl⟩
  ·obtain ⟨a1, o', es', t', b1, b2, b3, b4, b5⟩ := ad
   exact ⟨a1, o', es', t', b1, b2, b3, b4, fun _ q => b5 q rfl⟩
noncomputable def skStr (prog : Program) (w : World) : SKind prog w Str where
 hash := hashStr w
 is := fun _ n v => ∃ t, v = .str n t
 ok := fun _ => True
 pl := false
 keep := fun x _ => x
 pyHash := fun _ x h => by
  obtain ⟨t, rfl⟩ := x
  exact wpAny_pyHash_str (h _)
 find := fun {A E s a lim o es t l k x Q} _ _ _ x ho b hK _ h => by
  obtain ⟨tk, rfl⟩ := x
  refine sfind_scan (knd := strKind prog w) (x := .str k tk) (by simp [strKind, Value.isStrOf]) rfl ho b (hK.mono fun k v hv => ?_) fun r hr => h r (by rw [hr]; simp)
  refine x11 hv fun t' q98 => ?_; subst q98
  exact ⟨by simp [strKind, Value.isStrOf], rfl⟩
 add := fun {A E s a lim o es t l k x Q} _ _ _ x ho b hK _ hl h1 h2 => by
  refine x11 x fun tk q99 => ?_; subst q99
  refine sadd_scan (knd := strKind prog w) (x := .str k tk) (l := l) (by simp [strKind, Value.isStrOf]) rfl ho b (hK.mono fun k v hv => ?_) hl h1 fun hk h' ad => h2 hk h' ?_
  ·refine x11 hv fun t' q910 => ?_; subst q910
   exact ⟨by simp [strKind, Value.isStrOf], rfl⟩
  ·obtain ⟨a1, o', es', t', b1, b2, b3, b4, b5⟩ := ad
   exact ⟨a1, o', es', t', b1, b2, b3, b4, fun q => by cases q⟩
noncomputable def skTup (prog : Program) (w : World) (dom : List Int -> Prop) (hdom : ∀ x y, dom x -> dom y -> thash x = thash y -> x = y) : SKind prog w (List Int) where
 hash := thash
 is := tupIs
 ok := dom
 pl := true
 keep := fun x e => x12 (x) fun b hb y => ⟨b, hb, y.tk e⟩
 pyHash := fun hu x h => by
  refine x12 x fun b q911 y => ?_; subst q911
  exact t_hash hu y h
 find := fun {A E s a lim o es t l k x Q} hu hk hl x ho b hK hnd h => by
  refine x12 x fun bx q912 y => ?_; subst q912
  exact sfind_tup hu y ho b hK (fun k' hk' e => hdom _ _ (hl k' hk') hk e) hnd fun r hr => h r (by rw [hr]; simp)
 add := fun {A E s a lim o es t l k x Q} hu hk hl x ho b hK hnd hlim h1 h2 => by
  refine x12 x fun bx q913 y => ?_; subst q913
  exact sadd_tup hu y ho b hK (fun k' hk' e => hdom _ _ (hl k' hk') hk e) hnd hlim h1 fun hk h' o' es' t' a1 a2 a3 a4 a5 a6 => h2 hk h' ⟨a1, o', es', t', a2, a3, a4, a5, fun _ => a6⟩
noncomputable abbrev byText (w : World) : Bool := w.params.followText "set-order"
section
variable {prog : Program} {w : World} {K : Type} [DecidableEq K] {sk : SKind prog w K} {lim : Nat}
inductive SetAt (sk : SKind prog w K) (lim : Nat) (h : Heap) (a : Addr) (l : List K) : Prop
 | mk : ∀ o es t, h.get? a = some o -> SetBe lim o es t -> KeysAre sk.hash (sk.is h) es.toList l -> l.Nodup -> (∀ k ∈ l, sk.ok k) -> (t.led = !byText w /\ (sk.pl = true -> t.plain = true)) -> SetAt sk lim h a l
theorem SetAt.keep {h h' : Heap} {a : Addr} {l : List K} (x : SetAt sk lim h a l) (e : ∀ o, h.get? a = some o -> h'.get? a = some o) (tk : TupKeep h h') : SetAt sk lim h' a l := by
 obtain ⟨o, es, t, ho, b, hK, r1, r2, r3⟩ := x
 exact ⟨o, es, t, e o ho, b, hK.mono fun k v hv => sk.keep hv tk, r1, r2, r3⟩
theorem SetAt.obj {h : Heap} {a : Addr} {l : List K} (x : SetAt sk lim h a l) : ∃ o es ep t, h.get? a = some o /\ o = setO es ep t /\ es.size = l.length /\ t.fits es.size = true := by
 obtain ⟨o, es, t, ho, ⟨ep, rfl, ok⟩, hK, _⟩ := x
 exact ⟨_, es, ep, t, ho, rfl, by have := hK.1; simpa using this, ok.fits⟩
theorem SetAt.cls {h : Heap} {a : Addr} {l : List K} (x : SetAt sk lim h a l) : ∃ o, h.get? a = some o /\ o.cls = .type "set" /\ o.dict = none := by
 refine x43 x.obj fun o es ep t ho q915 _ => ?_; subst q915
 exact ⟨_, ho, rfl, rfl⟩
theorem SetAt.tupKeep {h h' : Heap} {a : Addr} {l : List K} (x : SetAt sk lim h a l) (hs : Heap.SameBut a h h') : TupKeep h h' := by
 refine x13 x.cls fun o ho hc _ => ?_
 exact TupKeep.of_same hs ho (by rw [hc]; decide)
theorem SetAt.typeIs {s : Shared} {a : Addr} {l : List K} (x : SetAt sk lim s.heap a l) : s.TypeIs (.ref a) "set" := x13 (x.cls) fun o ho hc _ => ⟨o, ho, hc⟩
theorem SetAt.le {h : Heap} {a : Addr} {l : List K} (x : SetAt sk lim h a l) : l.length ≤ lim := by
 obtain ⟨o, es, t, ho, ⟨ep, rfl, ok⟩, hK, _⟩ := x
 have := hK.1
 have := ok.le
 simp at *; lia
theorem SetAt.lim18 {h : Heap} {a : Addr} {l : List K} (x : SetAt sk lim h a l) : lim ≤ 18 := by
 obtain ⟨o, es, t, ho, ⟨ep, rfl, ok⟩, hK, _⟩ := x
 exact ok.lim18
variable {A : Around} {E : Value -> Shared -> Prop} {s : Shared} {a : Addr} {l : List K} {k : K} {x : Value}
theorem SetAt.added {h h' : Heap} (S : SetAt sk lim h a l) (hk : k ∉ l) (hok : sk.ok k) (hx : sk.is h k x) {o : Obj} {es : Array (Int × Value)} {t : SetTable} (_ho : h.get? a = some o) (_b : SetBe lim o es t)
  (hK : KeysAre sk.hash (sk.is h) es.toList l) (hr : t.led = !byText w /\ (sk.pl = true -> t.plain = true)) (hn : l.Nodup) (hoks : ∀ k ∈ l, sk.ok k)
  (ad : AddedS sk.pl lim a h es t (sk.hash k) x h') : ∃ l', l'.Perm (k :: l) /\ SetAt sk lim h' a l' := by
 obtain ⟨hs, o', es', t', ho', b', hp, hled, hpl⟩ := ad
 have tk := S.tupKeep hs
 refine x12 (KeysAre.perm hp (KeysAre.cons (hash := sk.hash) (is := sk.is h) (x := (sk.hash k, x)) (k := k) rfl hx hK)) fun l' hp' hK' => ?_
 refine ⟨l', hp', o', es', t', ho', b', hK'.mono fun k v hv => sk.keep hv tk, ?_, ?_, hled.trans hr.1, fun q => hpl q (hr.2 q)⟩
 ·exact hp'.nodup_iff.mpr (List.nodup_cons.mpr ⟨hk, hn⟩)
 ·intro k' hk'
  rcases List.mem_cons.mp (hp'.mem_iff.mp hk') with rfl | q
  ·exact hok
  ·exact hoks k' q
theorem SetAt.addH {Q : Bool -> Shared -> Prop} (S : SetAt sk lim s.heap a l) (hu : A.units < cLine) (hok : sk.ok k) (hx : sk.is s.heap k x) (hl : k ∉ l -> l.length + 1 ≤ lim) (hold : k ∈ l -> Q false s)
  (hnew : k ∉ l -> ∀ h' l', Heap.SameBut a s.heap h' -> l'.Perm (k :: l) -> SetAt sk lim h' a l' -> Q true { s with heap := h' }) : wpAny (model prog w) A (setAddHashed a x (sk.hash k)) Q E s := by
 have S' := S
 obtain ⟨o, es, t, ho, b, hK, hn, hoks, hr⟩ := S
 have hsz : es.size = l.length := by have := hK.1; simpa using this
 refine sk.add hu hok hoks hx ho b hK hn (fun hk => by rw [hsz]; exact hl hk) hold fun hk h' ad => ?_
 refine x12 (S'.added hk hok hx ho b hK hr hn hoks ad) fun l' hp S2 => ?_
 exact hnew hk h' l' ad.fst hp S2
theorem SetAt.addW {Q : Bool -> Shared -> Prop} (S : SetAt sk lim s.heap a l) (hu : A.units < cLine) (hok : sk.ok k) (hx : sk.is s.heap k x) (hl : k ∉ l -> l.length + 1 ≤ lim)
  (hQ : ∀ h' l' b, Heap.SameBut a s.heap h' -> (if k ∈ l then l' = l else l'.Perm (k :: l)) -> SetAt sk lim h' a l' -> Q b { s with heap := h' }) : wpAny (model prog w) A (setAddHashed a x (sk.hash k)) Q E s := by
 refine S.addH hu hok hx hl (fun hk => ?_) fun hk h' l' hs hp S' => hQ h' l' true hs (by rw [if_neg hk]; exact hp) S'
 have := hQ s.heap l false (Heap.SameBut.refl a s.heap) (by rw [if_pos hk]) S
 exact this
theorem mem_added {l l' : List K} (h : if k ∈ l then l' = l else l'.Perm (k :: l)) (y : K) : y ∈ l' ↔ y = k ∨ y ∈ l := by
 split at h
 ·rename_i hk
  subst h
  exact ⟨.inr, fun q => q.elim (fun e => e ▸ hk) id⟩
 ·rw [h.mem_iff, List.mem_cons]
theorem SetAt.findH {Q : Option Nat -> Shared -> Prop} (S : SetAt sk lim s.heap a l) (hu : A.units < cLine) (hok : sk.ok k) (hx : sk.is s.heap k x) (hQ : ∀ r : Option Nat, (r.isSome = true ↔ k ∈ l) -> Q r s) :
  wpAny (model prog w) A (setFind a x (sk.hash k)) Q E s := by
 obtain ⟨o, es, t, ho, b, hK, hn, hoks, hr⟩ := S
 exact sk.find hu hok hoks hx ho b hK hn hQ
theorem newSet_at {Q : Value -> Shared -> Prop} (hlim : lim ≤ 18) (h : SetAt sk lim (s.heap.push (setO #[] 0 (.fresh 0 0 (!byText w)))) s.heap.objs.size [] -> Q (.ref s.heap.objs.size) { s with heap := s.heap.push (setO #[] 0 (.fresh 0 0 (!byText w))) }) :
  wpAny (model prog w) A (newSet (.type "set")) Q E s := by
 skip
 refine wpAny_bind (wpAny_bind (wpAny_askSetting (wpAny_pure ?_)))
 skip
 skip
 refine wpAny_bind (wpAny_alloc (wpAny_pure (h ?_)))
 exact ⟨_, #[], _, Heap.get?_push_size _ rfl, ⟨0, rfl, TabOk.fresh hlim _ _ _⟩, KeysAre.nil, List.nodup_nil, (fun k hk => by simp at hk), rfl, fun _ => rfl⟩
end
end
-- SetM
section
open PySem
open PySem.SetTable
theorem erase_perm {α : Type} : ∀ (l : List α) (i : Nat) (h : i < l.length), (l[i] :: l.eraseIdx i).Perm l
 | [], _, h => by simp at h
 | a :: l, 0, _ => by rfl
 | a :: l, i + 1, h => by
  have := erase_perm l i (by simpa using h)
  exact (List.Perm.swap _ _ _).trans (this.cons a)
theorem pick_go {α : Type} (next : Nat -> Nat) : ∀ (fuel k : Nat) (left : List α) (out : Array α), left.length ≤ fuel -> (pickOrder.go next fuel k left out).toList.Perm (out.toList ++ left) := by
 intro fuel
 induction fuel with
 | zero =>
  intro k left out h
  have : left = [] := List.eq_nil_of_length_eq_zero (by lia)
  subst this
  unfold pickOrder.go
  simp
 | succ fuel ih =>
  intro k left out h
  unfold pickOrder.go
  cases hl : left with
  | nil => simp
  | cons a r =>
   rw [← hl]
   have hpos : 0 < left.length := by rw [hl]; simp
   have hlt : next k % left.length < left.length := Nat.mod_lt _ hpos
   rw [List.getElem?_eq_getElem hlt]
   skip
   have hle : (left.eraseIdx (next k % left.length)).length ≤ fuel := by rw [List.length_eraseIdx]; simp [hlt]; lia
   refine (ih (k + 1) _ _ hle).trans ?_
   rw [Array.toList_push, List.append_assoc]
   refine List.Perm.append_left _ ?_
   exact erase_perm left _ hlt
theorem pick_perm {α : Type} (next : Nat -> Nat) (xs : Array α) : (pickOrder next xs).toList.Perm xs.toList := by
 unfold pickOrder
 have := pick_go next xs.size 0 xs.toList #[] (by simp)
 simpa using this
section
variable {prog : Program} {w : World} {K : Type} [DecidableEq K] {sk : SKind prog w K} {lim : Nat}
variable {A : Around} {E : Value -> Shared -> Prop} {s : Shared} {a : Addr} {l : List K} {k : K} {x : Value}
theorem byText_ask {Q : Bool -> Shared -> Prop} (h : Q (byText w) s) : wpAny (model prog w) A setsByText Q E s := by
 skip
 exact wpAny_bind (wpAny_askSetting (wpAny_pure h))
theorem walk_plain {o : Obj} {es : Array (Int × Value)} {t : SetTable} {Q : Array (Int × Value) -> Shared -> Prop} (ho : s.heap.get? a = some o) (b : SetBe lim o es t) (hled : t.led = !byText w) (hpl : t.plain = true)
  (h : ∀ arr : Array (Int × Value), arr.toList.Perm es.toList -> Q arr s) : wpAny (model prog w) A (setWalk a) Q E s := by
 skip
 refine wpAny_bind (b.state ho fun ep _ => ?_)
 skip
 refine wpAny_bind (byText_ask ?_)
 cases hb : byText w with
 | true =>
  refine wpAny_ite_true (by first | rfl | rfl) ?_
  exact wpAny_bind (wpAny_askSetting (wpAny_pure (h _ (pick_perm _ _))))
 | false =>
  refine wpAny_ite_false (by first | rfl | rfl) ?_
  refine (?_ : wpAny _ _ (if (!t.plain && decide (es.size > 1)) = true then _ else _) _ _ _)
  refine (hpl).symm ▸ ?_
  refine wpAny_ite_false (by first | rfl | rfl) ?_
  refine (?_ : wpAny _ _ ((if (!t.led && decide (es.size > 1)) = true then _ else _) >>= _) _ _ _)
  rw [hled, hb]
  refine wpBF (by first | rfl | rfl) ?_
  exact wpAny_bind (wpAny_pure (wpAny_pure (h _ .rfl)))
theorem walkUnseen_plain {o : Obj} {es : Array (Int × Value)} {t : SetTable} {others : List Addr} {f : Option Addr} {Q : Array (Int × Value) -> Shared -> Prop} (ho : s.heap.get? a = some o) (b : SetBe lim o es t) (hled : t.led = !byText w) (hpl : t.plain = true)
  (h : ∀ arr : Array (Int × Value), arr.toList.Perm es.toList -> Q arr s) : wpAny (model prog w) A (setWalkUnseen a others f) Q E s := by
 skip
 refine wpAny_bind (b.state ho fun ep _ => ?_)
 skip
 refine wpAny_bind (byText_ask ?_)
 have : (byText w || (t.led && t.plain) || decide (es.size ≤ 1)) = true := by rw [hled, hpl]; cases byText w <;> rfl
 refine (this).symm ▸ ?_
 refine wpAny_ite_true (by first | rfl | rfl) ?_
 exact walk_plain ho b hled hpl h
theorem roomFor_at {more : Nat} {Q : Unit -> Shared -> Prop} (S : SetAt sk lim s.heap a l) (hm : l.length + more ≤ 15) (h8 : lim ≤ 8)
  (h : ∀ h' o es t l', Heap.SameBut a s.heap h' -> h'.get? a = some o -> SetBe lim o es t -> KeysAre sk.hash (sk.is h') es.toList l' -> l'.Perm l -> t.led = !byText w -> (sk.pl = true -> t.plain = true) -> (l.length + more) * 5 < t.mask * 3 -> Q () { s with heap := h' }) :
  wpAny (model prog w) A (setRoomFor a more) Q E s := by
 have S' := S
 obtain ⟨o, es, t, ho, b, hK, hn, hoks, hled, hpl⟩ := S
 have hsz : es.size = l.length := by have := hK.1; simpa using this
 skip
 refine wpAny_bind (b.state ho fun ep he => ?_)
 skip
 obtain ⟨ep', rfl, ok⟩ := b
 have hfill : t.fill = es.size := by rw [ok.good.fill, hsOf_len]
 have hps : t.place.size = es.size := by rw [ok.good.size, hsOf_len]
 have hrf : t.roomFor more = if (es.size + more) * 5 ≥ t.mask * 3 then some ((es.size + more) * 2) else none := by unfold SetTable.roomFor; rw [hfill, hps]
 refine (hrf).symm ▸ ?_
 by_cases hc : (es.size + more) * 5 ≥ t.mask * 3
 ·rw [if_pos hc]
  skip
  have hw : (es.size + more) * 2 < 32 := by lia
  refine relay_ok ho ok.fits hw ?_ fun h' hr => ?_
  ·refine (sizeAbove_small hw).symm ▸ ?_; split <;> (try split) <;> lia
  ·obtain ⟨hs, ep2, es2, t2, ho2, g2, hmk, hp, hl2, hp2⟩ := hr
   refine x12 (KeysAre.perm hp hK) fun l' hp' hK' => ?_
   have hsz2 : es2.size = es.size := by rw [← Array.length_toList, hp.length_eq, Array.length_toList]
   have hbig : (es.size + more) * 5 < t2.mask * 3 := by rw [hmk, sizeAbove_small hw]; split <;> (try split) <;> lia
   have hbe : SetBe lim (setO es2 ep2 t2) es2 t2 := ⟨ep2, rfl, g2, by rw [hsz2]; lia, by rw [hsz2]; exact ok.le, ok.lim18, .inl h8⟩
   exact h h' _ es2 t2 l' hs ho2 hbe (hK'.mono fun k v hv => sk.keep hv (S'.tupKeep hs)) hp' (hl2.trans hled) (fun q => by refine (hp2).symm ▸ ?_; exact hpl q) (by refine (hsz) ▸ ?_; exact hbig)
 ·rw [if_neg hc]
  skip
  have e : s = { s with heap := s.heap } := rfl
  exact wpAny_pure (h s.heap _ es t l (Heap.SameBut.refl _ _) ho ⟨ep', rfl, ok⟩ hK .rfl hled hpl (by refine (hsz) ▸ ?_; lia))
end
end
-- SetM2
section
open PySem
open PySem.SetTable
theorem GoodT.reled {t : SetTable} {hs : List Int} (g : GoodT t hs) (f mv : Nat) (led pl : Bool) : GoodT { t with finger := f, moves := mv, led := led, plain := pl } hs :=
 ⟨g.mask, g.dum, g.size, g.rise, g.top, g.room, g.chain⟩
section
variable {prog : Program} {w : World} {K : Type} [DecidableEq K] {sk : SKind prog w K} {lim : Nat}
variable {A : Around} {E : Value -> Shared -> Prop} {s : Shared} {a b : Addr} {l l1 l2 : List K} {k : K} {x : Value}
noncomputable def MgI (sk : SKind prog w K) (lim : Nat) (s : Shared) (a : Addr) (l1 l2 : List K) (rest : List (Int × Value)) (G : Shared -> Prop) : Prop := ∀ h' l' lr, Heap.SameBut a s.heap h' -> SetAt sk lim h' a l' -> KeysAre sk.hash (sk.is h') rest lr -> (∀ k ∈ lr, k ∈ l2) -> (∀ k ∈ l', k ∈ l1 ∨ k ∈ l2) -> (∀ k ∈ l1, k ∈ l') -> (∀ k ∈ l2, k ∈ l' ∨ k ∈ lr) -> G { s with heap := h' }
theorem merge_at {each : Sem Unit} {Q : Unit -> Shared -> Prop} (hpk : sk.pl = true) (S : SetAt sk lim s.heap a l1) (S2 : SetAt sk lim s.heap b l2) (hab : a ≠ b) (h7 : lim ≤ 7) (hu : A.units < cLine)
  (hun : ∀ m : List K, m.Nodup -> (∀ k ∈ m, k ∈ l1 ∨ k ∈ l2) -> m.length ≤ lim)
  (hea : ∀ (s' : Shared) (Q' : Unit -> Shared -> Prop), s'.heap.get? b = s.heap.get? b -> Q' () s' -> wpAny (model prog w) A each Q' E s')
  (h : ∀ h' l', Heap.SameBut a s.heap h' -> SetAt sk lim h' a l' -> (∀ k, k ∈ l' ↔ k ∈ l1 ∨ k ∈ l2) -> Q () { s with heap := h' }) :
  wpAny (model prog w) A (setMerge a b each) Q E s := by
 have S2' := S2
 have hle1 := S.le
 have hle2 := S2.le
 obtain ⟨ob, eb, tb, hob, bb, hKb, hnb, hokb, hledb, hplb⟩ := S2
 have hszb : eb.size = l2.length := by have := hKb.1; simpa using this
 skip
 have hne : ¬ (a == b) = true := by simpa using hab
 refine wpAny_ite_false (decide_eq_false hne) ?_
 refine wpAny_bind (bb.state hob fun epb hobe => ?_)
 skip
 by_cases hemp : eb.isEmpty = true
 ·refine wpAny_ite_true (decide_eq_true hemp) ?_
  have : l2 = [] := by
   have : eb.size = 0 := by simpa [Array.isEmpty] using hemp
   exact List.eq_nil_of_length_eq_zero (by lia)
  subst this
  exact wpAny_pure (h s.heap l1 (Heap.SameBut.refl _ _) S (by simp))
 ·refine wpAny_ite_false (decide_eq_false hemp) ?_
  refine wpAny_bind (roomFor_at S (by rw [hszb]; lia) (by lia) fun h1 o1 es1 t1 l1' hs1 ho1 b1 hK1 hp1 hled1 hpl1 hbig => ?_)
  have hn1 : l1'.Nodup := by
   obtain ⟨_, _, _, _, _, _, hn, _⟩ := S
   exact hp1.nodup_iff.mpr hn
  have hok1 : ∀ k ∈ l1', sk.ok k := by
   obtain ⟨_, _, _, _, _, _, _, hok, _⟩ := S
   exact fun k hk => hok k (hp1.mem_iff.mp hk)
  have S1 : SetAt sk lim h1 a l1' := ⟨o1, es1, t1, ho1, b1, hK1, hn1, hok1, hled1, hpl1⟩
  have tk1 := S.tupKeep hs1
  have hob1 : h1.get? b = some ob := (hs1.2 b (Ne.symm hab)).trans hob
  refine wpAny_bind (b1.state (s := { s with heap := h1 }) ho1 fun ep1 ho1e => ?_)
  dsimp only
  obtain ⟨ep1', rfl, ok1⟩ := b1
  obtain ⟨epb', rfl, okb⟩ := bb
  have hfill : t1.fill = es1.size := by rw [ok1.good.fill, hsOf_len]
  have hsz1 : es1.size = l1.length := by have := hK1.1; rw [hp1.length_eq] at this; simpa using this
  unfold SetTable.road
  refine (hfill).symm ▸ ?_
  by_cases hz : es1.size = 0
  ·-- the first is empty
   have hl1 : l1 = [] := List.eq_nil_of_length_eq_zero (by lia)
   subst hl1
   have hif : ¬ (es1.size != 0) = true := by simp [hz]
   rw [if_neg hif]
   have hledand : (t1.led && tb.led) = !byText w := by rw [hled1, hledb]; cases byText w <;> rfl
   have hpland : (t1.plain && tb.plain) = true := by rw [hpl1 hpk, hplb hpk]; rfl
   have hmem : ∀ l' : List K, l'.Perm l2 -> ∀ k, k ∈ l' ↔ k ∈ ([] : List K) ∨ k ∈ l2 := fun l' hp k => by rw [hp.mem_iff]; simp
   by_cases hmk : (t1.mask == tb.mask && tb.dummies.isEmpty) = true
   ·rw [if_pos hmk]
    skip
    have hzz : eb.size ≤ sizeLine := by rw [sizeLine_eq, hszb]; lia
    refine wpAny_storeSet_of ho1 rfl ?_ hzz
    have ho2 := upd_get ho1 eb { tb with finger := t1.finger, led := t1.led && tb.led, moves := t1.moves, plain := t1.plain && tb.plain }
    refine h _ l2 (hs1.trans (Heap.SameBut.update _ _ _)) ⟨_, eb, _, ho2, ⟨_, rfl, okb.good.reled _ _ _ _, okb.notFull, okb.le, okb.lim18, okb.lim15⟩, hKb.mono fun k v hv => sk.keep (sk.keep hv tk1) ?_, hnb, hokb, hledand, fun _ => hpland⟩ (hmem l2 .rfl)
    exact S1.tupKeep (Heap.SameBut.update _ _ _)
   ·rw [if_neg hmk]
    dsimp only
    have hbm : eb.size ≤ t1.mask := by rw [hszb]; simp at hbig; lia
    refine hidG fun GG hGG => ?_
    refine x28 (laid_good (finger := t1.finger) (moves := t1.moves) (led := t1.led && tb.led) (plain := t1.plain && tb.plain) ok1.good.mask (hashes := eb.map (·.1)) (by simpa using hbm)) fun t2 order e hpo g2 m2 _ _ led2 pl2 => ?_
    refine hGG ?_
    have hpe : (order.filterMap (eb[·]?)).toList.Perm eb.toList := by
     rw [Array.toList_filterMap]
     exact ((show order.toList.Perm (List.range eb.size) by simpa using hpo).filterMap _).trans (by rw [filterMap_getElem?_range])
    have hsz2 : (order.filterMap (eb[·]?)).size = eb.size := by rw [← Array.length_toList, hpe.length_eq, Array.length_toList]
    have g2' : GoodT t2 (hsOf (order.filterMap (eb[·]?))) := by
     unfold hsOf
     rw [Array.toList_filterMap, filterMap_map_fst]
     exact g2
    refine wpAny_bind ?_
    refine (e).symm ▸ ?_
    show wpAny _ _ (if ((order.filterMap (eb[·]?)).size != eb.size) = true then _ else _) _ E _
    refine wpAny_ite_false (decide_eq_false (by simp [hsz2])) ?_
    refine wpAny_pure ?_
    dsimp only
    have hzz : (order.filterMap (eb[·]?)).size ≤ sizeLine := by rw [hsz2, sizeLine_eq, hszb]; lia
    refine wpAny_storeSet_of ho1 rfl ?_ hzz
    have ho2 := upd_get ho1 (order.filterMap (eb[·]?)) t2
    refine x12 (KeysAre.perm hpe hKb) fun l' hp' hK' => ?_
    refine h _ l' (hs1.trans (Heap.SameBut.update _ _ _)) ⟨_, _, t2, ho2, ⟨_, rfl, g2', ?_, by rw [hsz2, hszb]; exact hle2, ok1.lim18, .inl (by lia)⟩, hK'.mono fun k v hv => sk.keep (sk.keep hv tk1) ?_, hp'.nodup_iff.mpr hnb, fun k hk => hokb k (hp'.mem_iff.mp hk), led2.trans hledand, fun _ => pl2.trans hpland⟩ (hmem l' hp')
    ·rw [hsz2, hszb, m2]; simp at hbig; lia
    ·exact S1.tupKeep (Heap.SameBut.update _ _ _)
  ·have hif : (es1.size != 0) = true := by simp [hz]
   refine (if_pos hif).symm ▸ ?_
   skip
   refine wpAny_bind (walkUnseen_plain (s := { s with heap := h1 }) hob1 ⟨epb', rfl, okb⟩ hledb (hplb hpk) fun arr harr => ?_)
   rw [← Array.forIn_toList]
   refine x12 (KeysAre.perm harr hKb) fun la hpa hKa => ?_
   refine wpAny_bind ?_
   refine wpAny_forIn_list _ (fun rest (_ : PUnit) s' => Chu (MgI sk lim s a l1 l2 rest) s') _ ?_ ?_ _ _ ?_
   ·rintro ⟨hx, x⟩ rest _ s' q810; refine Chu.out q810 ?_; intro h' l' lr hs' S' hKr hlr ha1 ha2 ha3
    refine x24 hKr.uncons fun k lr' q93 hxk hisk hKr' => ?_; subst q93
    dsimp only at hxk hisk
    subst hxk
    have hbo : h'.get? b = some (setO eb epb' tb) := (hs'.2 b (Ne.symm hab)).trans hob
    refine wpAny_bind (wpAny_holding (S'.addW (s := { s with heap := h' }) hu (hokb k (hlr k (by simp))) hisk (fun hk => ?_) fun h2 l2' bb hs2 hl2 S2 => ?_))
    ·have hnd : (k :: l').Nodup := by
      obtain ⟨_, _, _, _, _, _, hn, _⟩ := S'
      exact List.nodup_cons.mpr ⟨hk, hn⟩
     have := hun (k :: l') hnd (fun y hy => by
      rcases List.mem_cons.mp hy with rfl | hy
      ·exact .inr (hlr y (by simp))
      ·exact ha1 y hy)
     simpa using this
    ·have hbo2 : h2.get? b = some (setO eb epb' tb) := (hs2.2 b (Ne.symm hab)).trans hbo
     refine wpAny_bind (hea { s with heap := h2 } _ (hbo2.trans hob.symm) ?_)
     refine wpAny_bind (wpAny_setState_of (s := { s with heap := h2 }) hbo2 rfl okb.fits ?_)
     skip
     have hee : epb = epb' := by
      have : setO eb epb tb = setO eb epb' tb := hobe.symm
      injection this with _ _ hd _
      injection hd
     rw [hee]
     refine wpAny_ite_false (by first | rfl | simp) ?_
     refine wpAny_pure (fun _ k9 => k9 h2 l2' lr' (hs'.trans hs2) S2 (hKr'.mono fun k v hv => sk.keep hv (S'.tupKeep hs2)) (fun y hy => hlr y (.tail _ hy)) (fun y hy => ?_) (fun y hy => (mem_added hl2 y).mpr (.inr (ha2 y hy))) fun y hy => ?_)
     ·rcases (mem_added hl2 y).mp hy with rfl | hy
      ·exact .inr (hlr y (by simp))
      ·exact ha1 y hy
     ·refine Or.elim (ha3 y hy) (fun q => ?_) fun q => ?_
      ·exact .inl ((mem_added hl2 y).mpr (.inr q))
      ·rcases List.mem_cons.mp q with rfl | q
       ·exact .inl ((mem_added hl2 y).mpr (.inl rfl))
       ·exact .inr q
   ·rintro _ s' q86; refine Chu.out q86 ?_; intro h' l' lr hs' S' hKr hlr ha1 ha2 ha3
    have hlr0 : lr = [] := by have := hKr.1; exact List.eq_nil_of_length_eq_zero this.symm
    subst hlr0
    refine wpAny_pure (h h' l' hs' S' fun k => ⟨ha1 k, fun q => q.elim (ha2 k) fun q => (ha3 k q).elim id (by simp)⟩)
   ·exact fun _ k9 => k9 h1 l1' la hs1 S1 (hKa.mono fun k v hv => sk.keep hv tk1) (fun k hk => hpa.mem_iff.mp hk) (fun k hk => .inl (hp1.mem_iff.mp hk)) (fun k hk => hp1.mem_iff.mpr hk) fun k hk => .inr (hpa.mem_iff.mpr hk)
end
end
-- SetFacts
section
open PySem
theorem entry_set_difference : entryFor table "set.difference" = some Builtin.«frozenset.difference» :=
 entryFor_alias (id' := "frozenset.difference") (by rw [fastTable_eq_tree]; kernel_rfl) rfl (by decide +kernel) (by rw [fastTable_eq_tree]; kernel_rfl)
theorem entry_set_intersection : entryFor table "set.intersection" = some Builtin.«frozenset.intersection» :=
 entryFor_alias (id' := "frozenset.intersection") (by rw [fastTable_eq_tree]; kernel_rfl) rfl (by decide +kernel) (by rw [fastTable_eq_tree]; kernel_rfl)
theorem entry_set_iter : entryFor table "set.__iter__" = some Builtin.«frozenset.__iter__» :=
 entryFor_alias (id' := "frozenset.__iter__") (by rw [fastTable_eq_tree]; kernel_rfl) rfl (by decide +kernel) (by rw [fastTable_eq_tree]; kernel_rfl)
theorem slot_si_next : Slot "set_iterator" "__next__" "set_iterator.__next__" :=
 .of (owner := "set_iterator") (n := "__next__") (by rw [typeLookup_type, builtinLookup_eq_fast]; kernel_rfl) (by decide +kernel) (by decide +kernel) (by decide +kernel)
  (by first | exact .inl (by decide +kernel) | exact .inr (by decide +kernel)) (by rw [isSubtype_type]; kernel_rfl)
theorem slot_si_iter : Slot "set_iterator" "__iter__" "set_iterator.__iter__" :=
 .of (owner := "set_iterator") (n := "__iter__") (by rw [typeLookup_type, builtinLookup_eq_fast]; kernel_rfl) (by decide +kernel) (by decide +kernel) (by decide +kernel)
  (by first | exact .inl (by decide +kernel) | exact .inr (by decide +kernel)) (by rw [isSubtype_type]; kernel_rfl)
theorem entry_si_next : entryFor table "set_iterator.__next__" = some Builtin.«set_iterator.__next__» := entryFor_of_tree (by kernel_rfl)
theorem entry_si_iter : entryFor table "set_iterator.__iter__" = some Builtin.«dict_keyiterator.__iter__» :=
 entryFor_alias (id' := "dict_keyiterator.__iter__") (by rw [fastTable_eq_tree]; kernel_rfl) rfl (by decide +kernel) (by rw [fastTable_eq_tree]; kernel_rfl)
theorem owner_si : Manifest.owners.lookup (String.ofList ['r', 'o', 't', 'a', 'r', 'e', 't', 'i', '_', 't', 'e', 's'].reverse) = some Manifest.sig_set_iterator := by kernel_rfl
theorem args_si_next (a : Value) : argsOk "set_iterator.__next__" ⟨[a], []⟩ := by
 unfold argsOk; rw [signature?_of (id := "set_iterator.__next__") (n := ['_', '_', 't', 'x', 'e', 'n', '_', '_']) (o := ['r', 'o', 't', 'a', 'r', 'e', 't', 'i', '_', 't', 'e', 's']) (by kernel_rfl) owner_si]; kernel_rfl
theorem args_si_iter (a : Value) : argsOk "set_iterator.__iter__" ⟨[a], []⟩ := by
 unfold argsOk; rw [signature?_of (id := "set_iterator.__iter__") (n := ['_', '_', 'r', 'e', 't', 'i', '_', '_']) (o := ['r', 'o', 't', 'a', 'r', 'e', 't', 'i', '_', 't', 'e', 's']) (by kernel_rfl) owner_si]; kernel_rfl
theorem sub_tuple_set : isSubtype (.type "tuple") (.type "set") = pure false := by rw [isSubtype_type]; kernel_rfl
theorem sub_tuple_frozenset : isSubtype (.type "tuple") (.type "frozenset") = pure false := by rw [isSubtype_type]; kernel_rfl
theorem sub_list_set : isSubtype (.type "list") (.type "set") = pure false := by rw [isSubtype_type]; kernel_rfl
theorem sub_list_frozenset : isSubtype (.type "list") (.type "frozenset") = pure false := by rw [isSubtype_type]; kernel_rfl
theorem sub_dict_set : isSubtype (.type "dict") (.type "set") = pure false := by rw [isSubtype_type]; kernel_rfl
theorem sub_dict_frozenset : isSubtype (.type "dict") (.type "frozenset") = pure false := by rw [isSubtype_type]; kernel_rfl
theorem sub_set_set : isSubtype (.type "set") (.type "set") = pure true := by rw [isSubtype_type]; kernel_rfl
end
-- SetC
section
open PySem
open PySem.SetTable PySem.Builtin.Frozenset
section
variable {prog : Program} {w : World} {K : Type} [DecidableEq K] {sk : SKind prog w K} {lim : Nat}
variable {A : Around} {E : Value -> Shared -> Prop} {s : Shared} {a b : Addr} {l l1 l2 : List K} {k : K} {x : Value}
theorem anySet_yes {Q : Bool -> Shared -> Prop} (hT : s.TypeIs (.ref b) "set") (h : Q true s) : wpAny (model prog w) A (isAnySet (.ref b)) Q E s := by
 skip
 refine (?_ : wpAny _ _ (isInstance (.ref b) (.type "set") >>= _) _ _ _)
 refine wpAny_bind (wpAny_isInstance hT sub_set_set ?_)
 exact wpAny_pure h
theorem anySet_no {T : String} {v : Value} {Q : Bool -> Shared -> Prop} (hT : s.TypeIs v T) (h1 : isSubtype (.type T) (.type "set") = pure false) (h2 : isSubtype (.type T) (.type "frozenset") = pure false) (h : Q false s) :
  wpAny (model prog w) A (isAnySet v) Q E s := by
 skip
 refine (?_ : wpAny _ _ (isInstance v (.type "set") >>= _) _ _ _)
 refine wpAny_bind (wpAny_isInstance hT h1 ?_)
 exact wpAny_isInstance hT h2 h
theorem updateFrom_set {id : String} {Q : Unit -> Shared -> Prop} (hpk : sk.pl = true) (S : SetAt sk lim s.heap a l1) (S2 : SetAt sk lim s.heap b l2) (hab : a ≠ b) (h7 : lim ≤ 7) (hu : A.units < cLine)
  (hun : ∀ m : List K, m.Nodup -> (∀ k ∈ m, k ∈ l1 ∨ k ∈ l2) -> m.length ≤ lim)
  (h : ∀ h' l', Heap.SameBut a s.heap h' -> SetAt sk lim h' a l' -> (∀ k, k ∈ l' ↔ k ∈ l1 ∨ k ∈ l2) -> Q () { s with heap := h' }) :
  wpAny (model prog w) A (updateFrom id a (.ref b)) Q E s := by
 skip
 refine wpAny_bind (anySet_yes S2.typeIs ?_)
 refine wpAny_ite_true (by first | rfl | rfl) ?_
 refine (?_ : wpAny _ _ (addrOf (.ref b) >>= fun o => Builtin.Frozenset.merge id a o) _ _ _)
 refine wpAny_bind (m := addrOf (.ref b)) (wpAny_pure ?_)
 skip
 refine hidG fun GG hGG => ?_
 refine x44 S2.obj fun ob eb epb tb hob q91 hszb hfb => ?_; subst q91
 refine hGG ?_
 refine wpAny_bind (wpAny_setEpoch_of hob rfl hfb ?_)
 refine merge_at hpk S S2 hab h7 hu hun ?_ h
 intro s' Q' he hq
 skip
 refine wpAny_bind (wpAny_setEpoch_of (he.trans hob) rfl hfb ?_)
 refine wpAny_ite_false (by first | rfl | simp) ?_
 exact wpAny_pure hq
theorem call_update_set {Q : Value -> Shared -> Prop} (hpk : sk.pl = true) (S : SetAt sk lim s.heap a l1) (S2 : SetAt sk lim s.heap b l2) (hab : a ≠ b) (h7 : lim ≤ 7) (hu : A.in1.units < cLine)
  (hun : ∀ m : List K, m.Nodup -> (∀ k ∈ m, k ∈ l1 ∨ k ∈ l2) -> m.length ≤ lim)
  (h : ∀ h' l', Heap.SameBut a s.heap h' -> SetAt sk lim h' a l' -> (∀ k, k ∈ l' ↔ k ∈ l1 ∨ k ∈ l2) -> Q .none { s with heap := h' }) :
  wpAny (model prog w) A (call (.builtin "set.update") [.ref a, .ref b]) Q E s := by
 refine wpAny_call_entry PySem.F.slot_set_update S.typeIs F.entry_set_update ?_ (F.args_set_update_2 _ _)
 skip
 refine wpAny_bind (m := manyOthers "update" _) (wpAny_pure (a := (a, [Value.ref b])) ?_)
 dsimp only
 rw [List.forIn_cons]
 refine wpAny_bind (wpAny_bind (wpAny_bind (updateFrom_set hpk S S2 hab h7 hu hun fun h' l' hs S' hm => ?_)))
 refine wpAny_pure ?_
 dsimp only
 rw [List.forIn_nil]
 exact wpAny_pure (wpAny_pure ⟨_, rfl, h h' l' hs S' hm⟩)
noncomputable def DfI (sk : SKind prog w K) (lim : Nat) (s : Shared) (r : Addr) (l1 l2 : List K) (rest : List (Int × Value)) (G : Shared -> Prop) : Prop := ∀ h' l' lr, (∀ c o, s.heap.get? c = some o -> h'.get? c = some o) -> SetAt sk lim h' r l' -> KeysAre sk.hash (sk.is h') rest lr -> (∀ k ∈ lr, k ∈ l1) -> (∀ k ∈ l', k ∈ l1 /\ k ∉ l2) -> (∀ k ∈ l1, k ∉ l2 -> k ∈ l' ∨ k ∈ lr) -> G { s with heap := h' }
theorem difference_at {id : String} {Q : Value -> Shared -> Prop} (hpk : sk.pl = true) (S : SetAt sk lim s.heap a l1) (S2 : SetAt sk lim s.heap b l2) (hab : a ≠ b) (h7 : lim ≤ 7) (hne : l2 ≠ []) (hu : A.units < cLine)
  (h : ∀ h' l', (∀ c o, s.heap.get? c = some o -> h'.get? c = some o) -> SetAt sk lim h' s.heap.objs.size l' -> (∀ k, k ∈ l' ↔ k ∈ l1 /\ k ∉ l2) -> Q (.ref s.heap.objs.size) { s with heap := h' }) :
  wpAny (model prog w) A (difference id a (.ref b)) Q E s := by
 have hle1 := S.le
 have hlim := S.lim18
 have hl2 : 1 ≤ l2.length := by cases l2 with | nil => exact absurd rfl hne | cons _ _ => simp
 refine hidG fun GG hGG => ?_
 refine x44 S.obj fun oa ea epa ta hoa q92 hsza hfa => ?_; subst q92
 refine x44 S2.obj fun ob eb epb tb hob q93 hszb hfb => ?_; subst q93
 refine hGG ?_
 skip
 refine wpAny_bind (anySet_yes S2.typeIs ?_)
 skip
 refine wpAny_ite_false (by first | rfl | simp) ?_
 refine wpAny_bind (m := addrOf (.ref b)) (wpAny_pure ?_)
 simp only [Bool.false_and, Bool.false_eq_true, if_false, if_true]
 skip
 refine wpAny_bind (wpAny_bind (wpAny_setEntries_of hob rfl hfb (wpAny_pure ?_)))
 refine wpAny_bind (wpAny_bind (wpAny_setEntries_of hoa rfl hfa (wpAny_pure ?_)))
 have hif : ¬ (ea.size / 4 > eb.size) := by lia
 refine wpAny_ite_false (decide_eq_false hif) ?_
 skip
 refine wpAny_bind (wpAny_bind (wpAny_isInstance S.typeIs sub_set_set ?_))
 refine (if_pos rfl).symm ▸ ?_
 refine wpAny_pure ?_
 refine wpAny_bind (newSet_at (sk := sk) (lim := lim) hlim fun SR => ?_)
 have keep0 : ∀ c o, s.heap.get? c = some o -> (s.heap.push (setO #[] 0 (.fresh 0 0 (!byText w)))).get? c = some o := fun c o e => Heap.get?_push_of_some _ e
 refine wpAny_bind (m := addrOf (.ref s.heap.objs.size)) (wpAny_pure ?_)
 generalize hR : s.heap.objs.size = r at *
 have hra : r ≠ a := by refine (hR) ▸ ?_; exact Ne.symm (Nat.ne_of_lt (Heap.lt_size hoa))
 have hrb : r ≠ b := by refine (hR) ▸ ?_; exact Ne.symm (Nat.ne_of_lt (Heap.lt_size hob))
 have hoa1 := keep0 _ _ hoa
 have hob1 := keep0 _ _ hob
 have hnone : s.heap.get? r = none := by refine (hR) ▸ ?_; exact Heap.get?_none_of_le (Nat.le_refl _)
 refine wpAny_bind (wpAny_setEpoch_of (s := { s with heap := s.heap.push (setO #[] 0 (.fresh 0 0 (!byText w))) }) hoa1 rfl hfa ?_)
 refine wpAny_bind (wpAny_holding ?_)
 have S1 : SetAt sk lim (s.heap.push (setO #[] 0 (.fresh 0 0 (!byText w)))) a l1 := S.keep (fun o e => keep0 _ _ e) (TupKeep.of_stays keep0)
 have S1' := S1
 refine hidG fun GG hGG => ?_
 obtain ⟨oa', ea', ta', hoa', ba, hKa, hna, hoka, hleda, hpla⟩ := S1
 have hsame := Option.some.inj (hoa'.symm.trans hoa1)
 subst hsame
 obtain ⟨_, he, _⟩ := ba
 injection he with _ _ hd _
 injection hd with e1 e2 e3
 subst e1; subst e2; subst e3
 refine hGG ?_
 have ba : SetBe lim (setO ea epa ta) ea ta := by
  obtain ⟨o', es', t', ho', b', _⟩ := S1'
  have hsame := Option.some.inj (ho'.symm.trans hoa1)
  subst hsame
  obtain ⟨ep', he, ok⟩ := b'
  injection he with _ _ hd _
  injection hd with e1 e2 e3
  subst e1; subst e2; subst e3
  exact ⟨_, rfl, ok⟩
 refine wpAny_bind (walkUnseen_plain (s := { s with heap := s.heap.push (setO #[] 0 (.fresh 0 0 (!byText w))) }) hoa1 ba hleda (hpla hpk) fun arr harr => ?_)
 refine x12 (KeysAre.perm harr hKa) fun la hpa hKa2 => ?_
 rw [← Array.forIn_toList]
 refine wpAny_bind ?_
 refine wpAny_forIn_list _ (fun rest (_ : PUnit) s' => Chu (DfI sk lim s r l1 l2 rest) s') _ ?_ ?_ _ _ ?_
 ·rintro ⟨hx, x⟩ rest _ s' q810; refine Chu.out q810 ?_; intro h' l' lr hk' S' hKr hlr ha1 ha2
  refine x24 hKr.uncons fun k lr' q94 hxk hisk hKr' => ?_; subst q94
  dsimp only at hxk hisk
  subst hxk
  have S2' : SetAt sk lim h' b l2 := S2.keep (fun o e => hk' _ _ e) (TupKeep.of_stays hk')
  have hoa2 := hk' _ _ hoa
  have hkok := hoka k (hlr k (by simp))
  have inv : ∀ h2 l2', (∀ c o, s.heap.get? c = some o -> h2.get? c = some o) -> SetAt sk lim h2 r l2' -> TupKeep h' h2 -> (∀ y, y ∈ l2' ↔ (y = k /\ k ∉ l2) ∨ y ∈ l') ->
    Chu (DfI sk lim s r l1 l2 rest) { s with heap := h2 } := by
   intro h2 l2' hk2 SR2 tk2 hm2
   refine fun _ k9 => k9 h2 l2' lr' hk2 SR2 (hKr'.mono fun k v hv => sk.keep hv tk2) (fun y hy => hlr y (.tail _ hy)) (fun y hy => ?_) fun y hy hn => ?_
   ·rcases (hm2 y).mp hy with ⟨rfl, hn⟩ | q
    ·exact ⟨hlr y (by simp), hn⟩
    ·exact ha1 y q
   ·rcases ha2 y hy hn with q | q
    ·exact .inl ((hm2 y).mpr (.inr q))
    ·rcases List.mem_cons.mp q with rfl | q
     ·exact .inl ((hm2 y).mpr (.inl ⟨rfl, hn⟩))
     ·exact .inr q
  have unch : ∀ h2 (Q' : PUnit -> Shared -> Prop), (∀ c o, s.heap.get? c = some o -> h2.get? c = some o) -> Q' () { s with heap := h2 } -> wpAny (model prog w) A (unchanged id a epa) Q' E { s with heap := h2 } := by
   intro h2 Q' hk2 hq
   skip
   refine wpAny_bind (wpAny_setEpoch_of (s := { s with heap := h2 }) (hk2 _ _ hoa) rfl hfa ?_)
   refine wpAny_ite_false (by first | rfl | simp) ?_
   exact wpAny_pure hq
  refine wpAny_bind (wpAny_holding ?_)
  refine wpAny_bind (S2'.findH (s := { s with heap := h' }) hu hkok hisk fun rr hrr => ?_)
  refine wpAny_bind (wpAny_pure ?_)
  cases hrs : rr.isSome with
  | true =>
   have hin : k ∈ l2 := hrr.mp hrs
   refine wpAny_ite_false (by first | rfl | simp) ?_
   refine wpAny_pure (wpAny_bind (unch h' _ hk' (wpAny_pure ?_)))
   exact inv h' l' hk' S' (TupKeep.refl _) (fun y => ⟨.inr, fun q => q.elim (fun q => absurd hin q.2) (fun q => q)⟩)
  | false =>
   have hin : k ∉ l2 := fun q => by rw [hrr.mpr q] at hrs; cases hrs
   refine wpAny_ite_true (by first | rfl | simp) ?_
   refine wpAny_bind (S'.addW (s := { s with heap := h' }) hu hkok hisk (fun hkn => ?_) fun h2 l2' bb hs2 hl2' S2r => ?_)
   ·have hnd : (k :: l').Nodup := by
     obtain ⟨_, _, _, _, _, _, hn, _⟩ := S'
     exact List.nodup_cons.mpr ⟨hkn, hn⟩
    have := List.Nodup.length_le_of_subset (l₂ := l1) hnd (fun y hy => by
     rcases List.mem_cons.mp hy with rfl | hy
     ·exact hlr y (by simp)
     ·exact (ha1 y hy).1)
    simp at this; lia
   ·have hk2 : ∀ c o, s.heap.get? c = some o -> h2.get? c = some o := fun c o e => (hs2.2 c (fun q => by rw [q, hnone] at e; cases e)).trans (hk' c o e)
    refine wpAny_pure (wpAny_bind (unch h2 _ hk2 (wpAny_pure ?_)))
    refine inv h2 l2' hk2 S2r (S'.tupKeep hs2) (fun y => ?_)
    rw [mem_added hl2' y]
    exact ⟨fun q => q.imp (fun e => ⟨e, hin⟩) (fun q => q), fun q => q.imp (fun e => e.1) (fun q => q)⟩
 ·rintro _ s' q86; refine Chu.out q86 ?_; intro h' l' lr hk' S' hKr hlr ha1 ha2
  have hlr0 : lr = [] := by have := hKr.1; exact List.eq_nil_of_length_eq_zero this.symm
  subst hlr0
  refine wpAny_pure (wpAny_pure (h h' l' hk' S' fun k => ⟨ha1 k, fun q => (ha2 k q.1 q.2).elim (fun q => q) (by simp)⟩))
 ·exact fun _ k9 => k9 _ [] la keep0 SR hKa2 (fun k hk => hpa.mem_iff.mp hk) (fun _ q => nomatch q) fun k hk _ => .inr (hpa.mem_iff.mpr hk)
theorem call_difference {Q : Value -> Shared -> Prop} (hpk : sk.pl = true) (S : SetAt sk lim s.heap a l1) (S2 : SetAt sk lim s.heap b l2) (hab : a ≠ b) (h7 : lim ≤ 7) (hne : l2 ≠ []) (hu : A.in1.units < cLine)
  (h : ∀ h' l', (∀ c o, s.heap.get? c = some o -> h'.get? c = some o) -> SetAt sk lim h' s.heap.objs.size l' -> (∀ k, k ∈ l' ↔ k ∈ l1 /\ k ∉ l2) -> Q (.ref s.heap.objs.size) { s with heap := h' }) :
  wpAny (model prog w) A (call (.builtin "set.difference") [.ref a, .ref b]) Q E s := by
 refine wpAny_call_entry PySem.F.slot_set_difference S.typeIs entry_set_difference ?_ (F.args_set_difference_2 _ _)
 skip
 refine wpAny_bind (m := manyOthers "difference" _) (wpAny_pure (a := (a, [Value.ref b])) ?_)
 skip
 refine wpAny_bind (difference_at hpk S S2 hab h7 hne hu fun h' l' hk S' hm => ?_)
 refine wpAny_bind (wpAny_holding ?_)
 rw [List.forIn_nil]
 exact wpAny_pure (wpAny_pure ⟨_, rfl, h h' l' hk S' hm⟩)
end
end
-- SetIt
section
open PySem
open PySem.SetTable PySem.Builtin.Frozenset
inductive SetItAt (h : Heap) (I a : Addr) (first : Value) (i n ep : Nat) : Prop
 | mk : ∀ o, h.get? I = some o -> (o.cls = .type "set_iterator" /\ o.data = .fields #[first, .int i 0, .ref a, .int n 0, .int ep 0]) -> SetItAt h I a first i n ep
theorem SetItAt.typeIs {s : Shared} {I a first i n ep} (x : SetItAt s.heap I a first i n ep) : s.TypeIs (.ref I) "set_iterator" := let ⟨o, ho, hc, _⟩ := x; ⟨o, ho, hc⟩
theorem SetItAt.at {h h' : Heap} {I a first i n ep} (x : SetItAt h I a first i n ep) (e : ∀ o, h.get? I = some o -> h'.get? I = some o) : SetItAt h' I a first i n ep := let ⟨o, ho, r⟩ := x; ⟨o, e o ho, r⟩
section
variable {prog : Program} {w : World} {A : Around} {E : Value -> Shared -> Prop} {s : Shared} {I a : Addr} {es : Array (Int × Value)} {ep i n : Nat} {t : SetTable}
theorem pyIter_self {first : Value} {Q : Value -> Shared -> Prop} (hit : SetItAt s.heap I a first i n ep) (h : Q (.ref I) s) : wpAny (model prog w) A (pyIter (.ref I)) Q E s := by
 refine wpAny_pyIter_slot hit.typeIs slot_si_iter (wpAny_call_entry slot_si_iter hit.typeIs entry_si_iter ?_ (args_si_iter _))
 refine (?_ : wpAny _ _ (ret (.ref I)) _ _ s)
 exact wpAny_pure ⟨_, rfl, "set_iterator", _, hit.typeIs, slot_si_next.lookup, h⟩
theorem si_head {first : Value} {Q : Option Value -> Shared -> Prop} (hit : SetItAt s.heap I a first i n ep) (ho : s.heap.get? a = some (setO es ep t)) (hf : t.fits es.size = true) (hn : es.size = n)
  (h : wpAny (model prog w) A.in1 (do
   if let .int slot _ := first then
    match ← setNext a slot.toNat i ep with
    | some (x, next) =>
     setField (.ref I) 0 (rawInt next)
     setField (.ref I) 1 (rawInt (i + 1))
     ret x
    | none => setField (.ref I) 2 .none; raiseNew (← newExc (.type "StopIteration") [])
   else
    let some places ← seqItems? first | unsupported "internal:set_iterator"
    match places[i]? with
    | some (.int place _) =>
     let x ← setNextDrawn a place.toNat ep
     setField (.ref I) 1 (rawInt (i + 1))
     ret x
    | some _ => unsupported "internal:set_iterator"
    | none => setField (.ref I) 0 (rawInt 0); setField (.ref I) 2 .none; raiseNew (← newExc (.type "StopIteration") []))
   (fun fin s' => ∃ v, fin = .done (.ret v) /\ Q (some v) s') (fun e s' => wpAny (model prog w) A (do if ← isInstance e (.type "StopIteration") then pure none else throw e) Q E s') s) :
  wpAny (model prog w) A (pyNext (.ref I)) Q E s := by
 refine hidG fun GG hGG => ?_
 obtain ⟨oi, hoi, hci, hdi⟩ := id hit
 refine hGG ?_
 skip
 refine wpAny_bind (wpAny_attempt (wpAny_callSpecial?_slot (name := Str.ofString "__next__") hit.typeIs slot_si_next
  (wpAny_call_entry slot_si_next hit.typeIs entry_si_next ?_ (args_si_next _))))
 skip
 refine wpAny_bind (m := slotArgs "__next__" 0 _) (wpAny_pure (a := (Value.ref I, [])) ?_)
 skip
 refine wpAny_bind (wpAny_fieldsOf hoi hdi ?_)
 skip
 refine wpAny_bind (wpAny_setEntries_of ho rfl hf ?_)
 refine wpAny_ite_false (decide_eq_false (by refine (hn).symm ▸ ?_; simp)) ?_
 skip
 refine wpAny_mono h (fun fin s' hq => ?_) fun e s' he => ?_
 ·obtain ⟨v, rfl, hq⟩ := hq
  exact ⟨v, rfl, wpAny_pure hq⟩
 ·exact he
theorem it_set {h : Heap} {first : Value} {c : Nat} {fs : Array Value} (hit : ∃ o, h.get? I = some o /\ o.cls = .type "set_iterator" /\ o.data = .fields fs) (v : Value) :
  ∃ o, (h.update I (Obj.mapFields (·.setIfInBounds c v))).get? I = some o /\ o.cls = .type "set_iterator" /\ o.data = .fields (fs.setIfInBounds c v) := by
 refine hidG fun GG hGG => ?_
 refine x13 hit fun o ho hc hd => ?_
 refine hGG ?_
 exact ⟨_, Heap.get?_update_self _ ho (Obj.isFreed_of_fields (Obj.data_mapFields hd _)), (Obj.cls_mapFields ..).trans hc, Obj.data_mapFields hd _⟩
theorem si_stop {Q : Option Value -> Shared -> Prop} {R : Fin -> Shared -> Prop} {fs : Array Value} {c : Nat} {v : Value} (hh : A.handled = none) (hit : ∃ o, s.heap.get? I = some o /\ o.cls = .type "set_iterator" /\ o.data = .fields fs) (hc : c < fs.size)
  (hQ : ∀ h', Heap.ExtBut I s.heap h' -> Q none { s with heap := h' }) :
  wpAny (model prog w) A.in1 (do setField (.ref I) c v; raiseNew (← newExc (.type "StopIteration") []))
   R (fun e s' => wpAny (model prog w) A (do if ← isInstance e (.type "StopIteration") then pure none else throw e) Q E s') s := by
 refine hidG fun GG hGG => ?_
 refine x13 (id hit) fun o ho hcl hd => ?_
 refine hGG ?_
 refine wpAny_bind (wpAny_setField ho hd hc ?_)
 refine wpAny_bind ?_
 refine wpAny_bind (wpAny_newObj_type ?_ (by size_fits))
 refine wpAny_bind (m := firstArgMember _ _) (wpAny_of_eq (a := Value.none) (by first | rfl | (dsimp only [firstArgMember]; rfl)) ?_)
 refine wpAny_newObj_type ?_ (by size_fits)
 skip
 refine wpAny_bind (wpAny_handled ?_)
 refine (show A.in1.handled = none from hh).symm ▸ ?_
 refine wpAny_bind (wpAny_pure (wpAny_throw ?_))
 refine wpAny_bind (wpAny_isInstance (T := "StopIteration") (b := true) ⟨_, Heap.get?_push_size _ rfl, rfl⟩ isSubtype_stop ?_)
 exact wpAny_pure (hQ _ (((Heap.SameBut.update ..).extBut.push _).push _))
theorem si_slot_item {slot slot' : Nat} {x : Value} {Q : Option Value -> Shared -> Prop} (hit : SetItAt s.heap I a (.int slot 0) i n ep) (ho : s.heap.get? a = some (setO es ep t)) (hf : t.fits es.size = true) (hn : es.size = n)
  (hnext : ∀ (A' : Around) (E' : Value -> Shared -> Prop) (Q' : Option (Value × Nat) -> Shared -> Prop), Q' (some (x, slot')) s -> wpAny (model prog w) A' (setNext a slot i ep) Q' E' s)
  (hQ : ∀ h', SetItAt h' I a (.int slot' 0) (i + 1) n ep -> Heap.SameBut I s.heap h' -> Q (some x) { s with heap := h' }) : wpAny (model prog w) A (pyNext (.ref I)) Q E s := by
 obtain ⟨oi, hoi, hci, hdi⟩ := id hit
 refine si_head hit ho hf hn ?_
 skip
 skip
 refine wpAny_bind (hnext _ _ _ ?_)
 dsimp only
 refine wpAny_bind (wpAny_setField hoi hdi (by simp) ?_)
 refine hidG fun GG hGG => ?_
 refine x13 (it_set (first := .none) (c := 0) ⟨oi, hoi, hci, hdi⟩ (rawInt slot')) fun o1 ho1 hc1 hd1 => ?_
 refine hGG ?_
 refine wpAny_bind (wpAny_setField (s := { s with heap := s.heap.update I (Obj.mapFields (·.setIfInBounds 0 (rawInt slot'))) }) ho1 hd1 (by simp) ?_)
 refine hidG fun GG hGG => ?_
 refine x13 (it_set (first := .none) (c := 1) ⟨o1, ho1, hc1, hd1⟩ (rawInt ((i : Int) + 1))) fun o2 ho2 hc2 hd2 => ?_
 refine hGG ?_
 refine wpAny_pure ⟨x, rfl, hQ _ ⟨o2, ho2, hc2, ?_⟩ ((Heap.SameBut.update ..).trans (Heap.SameBut.update ..))⟩
 refine (hd2).symm ▸ ?_
 rfl
theorem si_slot_end {slot : Nat} {Q : Option Value -> Shared -> Prop} (hh : A.handled = none) (hit : SetItAt s.heap I a (.int slot 0) i n ep) (ho : s.heap.get? a = some (setO es ep t)) (hf : t.fits es.size = true) (hn : es.size = n)
  (hnext : ∀ (A' : Around) (E' : Value -> Shared -> Prop) (Q' : Option (Value × Nat) -> Shared -> Prop), Q' none s -> wpAny (model prog w) A' (setNext a slot i ep) Q' E' s)
  (hQ : ∀ h', Heap.ExtBut I s.heap h' -> Q none { s with heap := h' }) : wpAny (model prog w) A (pyNext (.ref I)) Q E s := by
 obtain ⟨oi, hoi, hci, hdi⟩ := id hit
 refine si_head hit ho hf hn ?_
 skip
 refine wpAny_bind (hnext _ _ _ ?_)
 dsimp only
 exact si_stop hh ⟨oi, hoi, hci, hdi⟩ (by simp) hQ
theorem si_drawn_item {ta : Addr} {ps : List Nat} {x : Value} {hx : Int} {p : Nat} {ot : Obj} {c : Nat} {Q : Option Value -> Shared -> Prop} (hit : SetItAt s.heap I a (.ref ta) i n ep) (ho : s.heap.get? a = some (setO es ep t)) (hf : t.fits es.size = true) (hn : es.size = n)
  (hta : s.heap.get? ta = some ot) (hdt : ot.data = .seq (ps.map fun (i : Nat) => rawInt i).toArray c) (hp : ps[i]? = some p) (he : es[p]? = some (hx, x))
  (hQ : ∀ h', SetItAt h' I a (.ref ta) (i + 1) n ep -> Heap.SameBut I s.heap h' -> Q (some x) { s with heap := h' }) : wpAny (model prog w) A (pyNext (.ref I)) Q E s := by
 obtain ⟨oi, hoi, hci, hdi⟩ := id hit
 refine si_head hit ho hf hn ?_
 skip
 refine wpAny_bind (wpAny_seqItems hta hdt ?_)
 dsimp only
 have hpi : (ps.map fun (i : Nat) => rawInt i).toArray[i]? = some (rawInt (p : Nat)) := by simp [hp]
 refine (hpi).symm ▸ ?_
 dsimp only [rawInt]
 skip
 refine wpAny_bind ?_
 skip
 refine wpAny_bind (wpAny_setState_of ho rfl hf ?_)
 skip
 refine wpAny_ite_false (by first | rfl | simp) ?_
 refine (he).symm ▸ ?_
 skip
 refine wpAny_pure ?_
 refine wpAny_bind (wpAny_setField hoi hdi (by simp) ?_)
 refine x13 (it_set (first := .none) (c := 1) ⟨oi, hoi, hci, hdi⟩ (.int ((i : Int) + 1) 0)) fun o2 ho2 hc2 hd2 => ?_
 refine wpAny_pure ⟨x, rfl, hQ _ ⟨o2, ho2, hc2, ?_⟩ (Heap.SameBut.update ..)⟩
 refine (hd2).symm ▸ ?_
 rfl
theorem si_drawn_end {ta : Addr} {ps : List Nat} {ot : Obj} {c : Nat} {Q : Option Value -> Shared -> Prop} (hh : A.handled = none) (hit : SetItAt s.heap I a (.ref ta) i n ep) (ho : s.heap.get? a = some (setO es ep t)) (hf : t.fits es.size = true) (hn : es.size = n)
  (hta : s.heap.get? ta = some ot) (hdt : ot.data = .seq (ps.map fun (i : Nat) => rawInt i).toArray c) (hp : ps[i]? = none)
  (hQ : ∀ h', Heap.ExtBut I s.heap h' -> Q none { s with heap := h' }) : wpAny (model prog w) A (pyNext (.ref I)) Q E s := by
 refine hidG fun GG hGG => ?_
 obtain ⟨oi, hoi, hci, hdi⟩ := id hit
 refine hGG ?_
 refine si_head hit ho hf hn ?_
 skip
 refine wpAny_bind (wpAny_seqItems hta hdt ?_)
 dsimp only
 have hpi : (ps.map fun (i : Nat) => rawInt i).toArray[i]? = none := by simp [hp]
 refine (hpi).symm ▸ ?_
 dsimp only
 refine wpAny_bind (wpAny_setField hoi hdi (by simp) ?_)
 refine hidG fun GG hGG => ?_
 refine x13 (it_set (first := .none) (c := 0) ⟨oi, hoi, hci, hdi⟩ (rawInt 0)) fun o1 ho1 hc1 hd1 => ?_
 refine hGG ?_
 exact si_stop (s := { s with heap := s.heap.update I (Obj.mapFields (·.setIfInBounds 0 (rawInt 0))) }) hh ⟨o1, ho1, hc1, hd1⟩ (by simp) fun h' hx => hQ h' fun b o hb e => hx b o hb (((Heap.SameBut.update ..).2 b hb).trans e)
end
end
-- SetIt2
section
open PySem
open PySem.SetTable PySem.Builtin.Frozenset
section
variable {prog : Program} {w : World} {A : Around} {E : Value -> Shared -> Prop} {s : Shared} {I a : Addr} {es : Array (Int × Value)} {ep i n : Nat} {t : SetTable} {lim : Nat}
theorem next_text {slot j : Nat} {Q : Option (Value × Nat) -> Shared -> Prop} (hb : byText w = true) (ho : s.heap.get? a = some (setO es ep t)) (hf : t.fits es.size = true)
  (h : Q (((pickOrder (w.params.setOrder a ep) es)[j]?).map fun e => (e.2, slot)) s) : wpAny (model prog w) A (setNext a slot j ep) Q E s := by
 refine wpAny_bind (wpAny_setState_of ho rfl hf ?_)
 skip
 refine wpAny_bind (byText_ask ?_)
 refine (hb).symm ▸ ?_
 refine wpAny_ite_true (by first | rfl | simp) ?_
 refine wpAny_ite_false (by first | rfl | simp) ?_
 refine wpAny_bind (wpAny_bind (wpAny_setState_of ho rfl hf ?_))
 skip
 refine wpAny_bind (byText_ask ?_)
 refine (hb).symm ▸ ?_
 refine wpAny_ite_true (by first | rfl | rfl) ?_
 exact wpAny_bind (wpAny_askSetting (wpAny_pure (wpAny_pure h)))
theorem next_led {slot : Nat} {Q : Option (Value × Nat) -> Shared -> Prop} (hb : byText w = false) (ho : s.heap.get? a = some (setO es ep t)) (hf : t.fits es.size = true) (hled : t.led = !byText w) (hpl : t.plain = true ∨ es.size ≤ 1)
  (h : Q (match es[below t.place slot]?, t.place[below t.place slot]? with | some (_, x), some j => some (x, j + 1) | _, _ => none) s) : wpAny (model prog w) A (setNext a slot i ep) Q E s := by
 refine wpAny_bind (wpAny_setState_of ho rfl hf ?_)
 skip
 refine wpAny_bind (byText_ask ?_)
 refine (hb).symm ▸ ?_
 refine wpAny_ite_false (by first | rfl | rfl) ?_
 refine (?_ : wpAny _ _ (if (!t.plain && decide (es.size > 1)) = true then _ else _) _ _ _)
 have : (!t.plain && decide (es.size > 1)) = false := by
  refine Or.elim (hpl) (fun q => ?_) fun q => ?_
  ·refine (q).symm ▸ ?_; rfl
  ·have : decide (es.size > 1) = false := by simpa using q
   refine (this).symm ▸ ?_; simp
 refine (this).symm ▸ ?_
 refine wpAny_ite_false (by first | rfl | rfl) ?_
 refine (?_ : wpAny _ _ ((if (!t.led && !es.isEmpty) = true then _ else _) >>= _) _ _ _)
 rw [hled, hb]
 refine wpBF (by first | rfl | simp) ?_
 refine wpAny_bind (wpAny_pure ?_)
 exact wpAny_pure h
theorem choose_ok {src : Source} {n : Nat} {Q : Nat -> Shared -> Prop} (hn : n ≠ 0) (h : ∀ i dr, i < n -> Q i { s with drawn := dr }) : wpAny (model prog w) A (choose src n) Q E s :=
 fun _ _ _ => ⟨hn, h _ _ (Nat.mod_lt _ (Nat.pos_of_ne_zero hn))⟩
theorem draw_ok {α : Type} : ∀ (n : Nat) (xs : List α) (s : Shared) (Q : List α -> Shared -> Prop), xs.length ≤ n -> (∀ out dr, out.Perm xs -> Q out { s with drawn := dr }) -> wpAny (model prog w) A (drawOrder n xs) Q E s
 | 0, xs, s, Q, hl, h => by
  have : xs = [] := List.eq_nil_of_length_eq_zero (by lia)
  subst this
  exact wpAny_pure (h [] s.drawn .rfl)
 | n + 1, [], s, Q, hl, h => by
  exact wpAny_pure (h [] s.drawn .rfl)
 | n + 1, x :: r, s, Q, hl, h => by
  refine wpAny_bind (choose_ok (by simp) fun i dr hi => ?_)
  refine (List.getElem?_eq_getElem hi).symm ▸ ?_
  skip
  refine wpAny_bind (draw_ok n _ _ _ ?_ fun out dr' hp => ?_)
  ·rw [List.length_eraseIdx, if_pos hi]; simp at hl ⊢; omega
  ·exact wpAny_pure (h _ _ ((hp.cons _).trans (erase_perm _ _ hi)))
structure SetWalkIs (prog : Program) (w : World) (hz0 h' : Heap) (a I : Addr) (es : Array (Int × Value)) (arr : Array (Int × Value)) (fp : List Addr) (St : Nat -> Heap -> Prop) (D : Prop) : Prop where
 perm : arr.toList.Perm es.toList
 walks : ∀ A : Around, A.handled = none -> Walks prog w A I fp [I] arr.size (fun i v => ∃ e, arr[i]? = some e /\ v = e.2) St
 start : St 0 h'
 fps : ∀ b ∈ fp, b < h'.objs.size /\ (b = a ∨ hz0.get? b = none)
 self : hz0.get? I = none
 keep : ∀ b o, hz0.get? b = some o -> h'.get? b = some o
 two : D -> fp = [I, a]
 icls : ∀ i h, St i h -> ∃ o, h.get? I = some o /\ o.cls = .type "set_iterator"
noncomputable def slotAt (xs : Array Nat) : Nat -> Nat
 | 0 => 0
 | i + 1 => xs.getD i 0 + 1
theorem below_slotAt {xs : Array Nat} (hr : xs.toList.Pairwise (· < ·)) {i : Nat} (hi : i ≤ xs.size) : below xs (slotAt xs i) = i := by
 cases i with
 | zero => exact below_zero hr
 | succ i =>
  have hlt : i < xs.size := by lia
  exact below_succ hr (show xs[i]? = some (xs.getD i 0) by simp [hlt])
theorem pyIter_set {o : Obj} {Q : Value -> Shared -> Prop} (ho : s.heap.get? a = some o) (b : SetBe lim o es t) (hled : t.led = !byText w)
  (hQ : ∀ h' dr I arr fp St, SetWalkIs prog w s.heap h' a I es arr fp St (t.plain = true) -> Q (.ref I) { s with heap := h', drawn := dr }) : wpAny (model prog w) A (pyIter (.ref a)) Q E s := by
 obtain ⟨ep, rfl, ok⟩ := b
 have hf := ok.fits
 have hT : s.TypeIs (.ref a) "set" := ⟨_, ho, rfl⟩
 have hne : ∀ {h : Heap}, a < h.objs.size -> a ≠ h.objs.size := fun h => Nat.ne_of_lt h
 have halt := Heap.lt_size ho
 refine wpAny_pyIter_slot hT PySem.F.slot_set_iter (wpAny_call_entry PySem.F.slot_set_iter hT entry_set_iter ?_ (F.args_set_iter_1 _))
 refine wpAny_bind (m := slot0 "__iter__" _) (wpAny_pure (a := a) ?_)
 refine wpAny_bind (wpAny_bind (wpAny_setEntries_of ho rfl hf (wpAny_pure ?_)))
 refine wpAny_bind (wpAny_bind (wpAny_setState_of ho rfl hf ?_))
 skip
 refine wpAny_bind (byText_ask (wpAny_pure ?_))
 refine (?_ : wpAny _ _ (if (!byText w && (!t.plain && decide (es.size > 1))) = true then _ else _) _ _ _)
 -- an iterator by places
 have placed : ∀ (arr : Array (Int × Value)) (slot : Nat -> Nat), arr.toList.Perm es.toList -> slot 0 = 0 ->
   (∀ (s' : Shared) (A' : Around) (E' : Value -> Shared -> Prop) (i : Nat) (e : Int × Value) (Q' : Option (Value × Nat) -> Shared -> Prop), s'.heap.get? a = some (setO es ep t) -> arr[i]? = some e -> Q' (some (e.2, slot (i + 1))) s' -> wpAny (model prog w) A' (setNext a (slot i) i ep) Q' E' s') ->
   (∀ (s' : Shared) (A' : Around) (E' : Value -> Shared -> Prop) (Q' : Option (Value × Nat) -> Shared -> Prop), s'.heap.get? a = some (setO es ep t) -> Q' none s' -> wpAny (model prog w) A' (setNext a (slot arr.size) arr.size ep) Q' E' s') ->
   wpAny (model prog w) A.in1 (do ret (← newFields "set_iterator" [rawInt 0, rawInt 0, .ref a, rawInt es.size, rawInt (← setEpoch a)]))
    (fun fin s' => ∃ v, fin = Fin.done (Flow.ret v) /\ ∃ T' r, s'.TypeIs v T' /\ typeLookup (Value.type T') (Str.ofString "__next__") = pure (some r) /\ Q v s') E s := by
  intro arr slot hp h0 hitem hend
  have hsz : arr.size = es.size := by rw [← Array.length_toList, hp.length_eq, Array.length_toList]
  refine wpAny_bind (wpAny_setEpoch_of ho rfl hf ?_)
  refine wpAny_bind (wpAny_newObj_type (wpAny_pure ⟨_, rfl, "set_iterator", _, ⟨_, Heap.get?_push_size _ rfl, rfl⟩, slot_si_next.lookup, ?_⟩))
  have hd : s.drawn = s.drawn := rfl
  refine hQ _ s.drawn _ arr [s.heap.objs.size, a] (fun i h => SetItAt h s.heap.objs.size a (.int (slot i) 0) i es.size ep /\ h.get? a = some (setO es ep t)) ⟨hp, fun A' hA' => ?_, ⟨⟨_, Heap.get?_push_size _ rfl, rfl, ?_⟩, Heap.get?_push_of_some _ ho⟩, ?_, Heap.get?_none_of_le (Nat.le_refl _), fun b o e => Heap.get?_push_of_some _ e, fun _ => rfl, fun i h ⟨⟨o, e, c, _⟩, _⟩ => ⟨o, e, c⟩⟩
  ·exact {
    sub := fun b hb => by simp at hb; simp [hb]
    frame := fun i h h' st hk => ⟨st.1.at fun o e => hk _ (by simp) o e, hk a (by simp) _ st.2⟩
    item := fun i s' Q' E' hi st hQ' => by
     refine si_slot_item st.1 st.2 hf rfl (fun A2 E2 Q2 hq => hitem s' A2 E2 i arr[i] Q2 st.2 (Array.getElem?_eq_getElem hi) hq) fun h2 hit2 hs2 => ?_
     refine hQ' _ h2 s'.toks ⟨_, Array.getElem?_eq_getElem hi, rfl⟩ ⟨hit2, (hs2.2 a (hne halt)).trans st.2⟩ fun b o hb e => (hs2.2 b (fun q => hb (by simp [q]))).trans e
    done := fun s' Q' E' st hQ' => by
     refine si_slot_end hA' st.1 st.2 hf rfl (fun A2 E2 Q2 hq => hend s' A2 E2 Q2 st.2 hq) fun h2 hx2 => ?_
     exact hQ' h2 s'.toks fun b o hb e => hx2 b o (fun q => hb (by simp [q])) e
    self := fun i s' Q' E' st hq => pyIter_self st.1 hq }
  ·simp [rawInt, h0]
  ·intro b hb
   simp at hb
   rw [Heap.size_push]
   rcases hb with rfl | rfl
   ·exact ⟨Nat.lt_succ_self _, .inr (Heap.get?_none_of_le (Nat.le_refl _))⟩
   ·exact ⟨Nat.lt_succ_of_lt halt, .inl rfl⟩
 by_cases hdr : (!byText w && (!t.plain && decide (es.size > 1))) = true
 ·refine wpAny_ite_true (decide_eq_true hdr) ?_
  refine wpAny_bind (draw_ok es.size (List.range es.size) s _ (by simp) fun ps dr hps => ?_)
  have hlen : ps.length = es.size := by rw [hps.length_eq]; simp
  refine wpAny_bind (m := newTuple _) (wpAny_newObj_type ?_ (by show (ps.map fun (i : Nat) => rawInt i).toArray.size ≤ sizeLine; simp [hlen, sizeLine_eq]; have := ok.le; have := ok.lim18; lia))
  have ho1 : (s.heap.push { cls := .type "tuple", data := .seq (ps.map fun (i : Nat) => rawInt i).toArray }).get? a = some (setO es ep t) := Heap.get?_push_of_some _ ho
  have hta : (s.heap.push { cls := .type "tuple", data := .seq (ps.map fun (i : Nat) => rawInt i).toArray }).get? s.heap.objs.size = some { cls := .type "tuple", data := .seq (ps.map fun (i : Nat) => rawInt i).toArray } := Heap.get?_push_size _ rfl
  refine wpAny_bind (wpAny_setEpoch_of (s := { s with heap := s.heap.push { cls := .type "tuple", data := .seq (ps.map fun (i : Nat) => rawInt i).toArray }, drawn := dr }) ho1 rfl hf ?_)
  refine wpAny_bind (wpAny_newObj_type (wpAny_pure ⟨_, rfl, "set_iterator", _, ⟨_, Heap.get?_push_size _ rfl, rfl⟩, slot_si_next.lookup, ?_⟩))
  generalize hH1 : s.heap.push { cls := .type "tuple", data := .seq (ps.map fun (i : Nat) => rawInt i).toArray } = H1 at *
  have hH1s : H1.objs.size = s.heap.objs.size + 1 := by rw [← hH1, Heap.size_push]
  have old : ∀ b o, s.heap.get? b = some o -> H1.get? b = some o := fun b o e => by rw [← hH1]; exact Heap.get?_push_of_some _ e
  have harrp : (ps.filterMap (es[·]?)).Perm es.toList := (hps.filterMap _).trans (by rw [filterMap_getElem?_range])
  have hbound : ∀ p ∈ ps, p < es.size := fun p hp => List.mem_range.mp (hps.mem_iff.mp hp)
  have hmap : ∀ (l : List Nat), (∀ p ∈ l, p < es.size) -> (l.filterMap (es[·]?)) = l.map fun p => es.getD p (0, .none) := by
   intro l hl
   induction l with
   | nil => rfl
   | cons x l ih =>
    have hx := hl x (by simp)
    rw [List.filterMap_cons_some (b := es.getD x (0, .none)) (by simp [hx]), ih (fun y hy => hl y (by simp [hy]))]
    rfl
  have hmp := hmap ps hbound
  have hIne : s.heap.objs.size ≠ H1.objs.size := by rw [hH1s]; exact Nat.ne_of_lt (Nat.lt_succ_self _)
  have hane : a ≠ H1.objs.size := by rw [hH1s]; exact Nat.ne_of_lt (Nat.lt_succ_of_lt halt)
  have hsize : (ps.map fun p => es.getD p (0, .none)).toArray.size = ps.length := by simp
  refine hQ _ dr _ (ps.map fun p => es.getD p (0, .none)).toArray [H1.objs.size, a, s.heap.objs.size] (fun i h => SetItAt h H1.objs.size a (.ref s.heap.objs.size) i es.size ep /\ h.get? a = some (setO es ep t) /\ h.get? s.heap.objs.size = some { cls := .type "tuple", data := .seq (ps.map fun (i : Nat) => rawInt i).toArray })
   ⟨by refine (hmp) ▸ ?_; simpa using harrp, fun A' hA' => ?_, ⟨⟨_, Heap.get?_push_size _ rfl, rfl, by rfl⟩, Heap.get?_push_of_some _ ho1, Heap.get?_push_of_some _ hta⟩, ?_, Heap.get?_none_of_le (by refine (hH1s).symm ▸ ?_; exact Nat.le_succ _), fun b o e => Heap.get?_push_of_some _ (old b o e), fun q => by rw [q] at hdr; simp at hdr, fun i h ⟨⟨o, e, c, _⟩, _⟩ => ⟨o, e, c⟩⟩
  ·exact {
    sub := fun b hb => by simp at hb; simp [hb]
    frame := fun i h h' st hk => ⟨st.1.at fun o e => hk _ (by simp) o e, hk a (by simp) _ st.2.1, hk _ (by simp) _ st.2.2⟩
    item := fun i s' Q' E' hi st hQ' => by
     have hi' : i < ps.length := by rw [← hsize]; exact hi
     have hpb := hbound ps[i] (List.getElem_mem hi')
     refine si_drawn_item st.1 st.2.1 hf rfl st.2.2 rfl (List.getElem?_eq_getElem hi') (hx := es[ps[i]].1) (x := es[ps[i]].2) (Array.getElem?_eq_getElem hpb) fun h2 hit2 hs2 => ?_
     refine hQ' _ h2 s'.toks ⟨es[ps[i]], by simp [hi', hpb], rfl⟩ ⟨hit2, (hs2.2 a hane).trans st.2.1, (hs2.2 _ hIne).trans st.2.2⟩ fun b o hb e => (hs2.2 b (fun q => hb (by simp [q]))).trans e
    done := fun s' Q' E' st hQ' => by
     refine si_drawn_end hA' st.1 st.2.1 hf rfl st.2.2 rfl (by simp) fun h2 hx2 => ?_
     exact hQ' h2 s'.toks fun b o hb e => hx2 b o (fun q => hb (by simp [q])) e
    self := fun i s' Q' E' st hq => pyIter_self st.1 hq }
  ·intro b hb
   simp at hb
   rw [Heap.size_push, hH1s]
   rcases hb with rfl | rfl | rfl
   ·exact ⟨by refine (hH1s).symm ▸ ?_; exact Nat.lt_succ_self _, .inr (Heap.get?_none_of_le (by refine (hH1s).symm ▸ ?_; exact Nat.le_succ _))⟩
   ·exact ⟨Nat.lt_succ_of_lt (Nat.lt_succ_of_lt halt), .inl rfl⟩
   ·exact ⟨Nat.lt_succ_of_lt (Nat.lt_succ_self _), .inr (Heap.get?_none_of_le (Nat.le_refl _))⟩
 ·refine wpAny_ite_false (decide_eq_false hdr) ?_
  refine wpAny_bind (wpAny_pure ?_)
  cases hb : byText w with
  | true =>
   refine placed (pickOrder (w.params.setOrder a ep) es) (fun _ => 0) (pick_perm _ _) rfl ?_ ?_
   ·intro s' A' E' i e Q' ho' he hq
    refine next_text hb ho' hf ?_
    refine (he).symm ▸ ?_; exact hq
   ·intro s' A' E' Q' ho' hq
    refine next_text hb ho' hf ?_
    refine (Array.getElem?_eq_none (Nat.le_refl _)).symm ▸ ?_; exact hq
  | false =>
   have hpl : t.plain = true ∨ es.size ≤ 1 := by
    rw [hb] at hdr
    cases hp : t.plain with
    | true => exact .inl rfl
    | false =>
     right
     rw [hp] at hdr
     simpa using hdr
   have hps : t.place.size = es.size := by rw [ok.good.size, hsOf_len]
   refine placed es (slotAt t.place) .rfl rfl ?_ ?_
   ·intro s' A' E' i e Q' ho' he hq
    have hi := (Array.getElem?_eq_some_iff.mp he).1
    refine next_led hb ho' hf hled hpl ?_
    rw [below_slotAt ok.good.rise (by lia), he]
    have hpi : t.place[i]? = some (t.place.getD i 0) := by
     have : i < t.place.size := by lia
     simp [this]
    refine (hpi).symm ▸ ?_
    exact hq
   ·intro s' A' E' Q' ho' hq
    refine next_led hb ho' hf hled hpl ?_
    rw [below_slotAt ok.good.rise (by lia), Array.getElem?_eq_none (Nat.le_refl _)]
    exact hq
end
end
-- SortT
section
open PySem PySem.W PyProof.Rows
noncomputable def AllOk {α : Type} (n : Nat) (P : α -> Prop) : KasT α -> Prop
 | .ret a => P a
 | .ask i j k => i < n /\ j < n /\ ∀ b, AllOk n P (k b)
theorem AllOk.bind {α β : Type} {n : Nat} {P : α -> Prop} {R : β -> Prop} {f : α -> KasT β} : ∀ (t : KasT α), AllOk n P t -> (∀ a, P a -> AllOk n R (f a)) -> AllOk n R (t.bind f)
 | .ret a, h, hf => hf a h
 | .ask i j k, h, hf => ⟨h.1, h.2.1, fun b => AllOk.bind (k b) (h.2.2 b) hf⟩
theorem AllOk.mono {α : Type} {n : Nat} {P R : α -> Prop} (h : ∀ a, P a -> R a) : ∀ (t : KasT α), AllOk n P t -> AllOk n R t
 | .ret a, q => h a q
 | .ask i j k, q => ⟨q.1, q.2.1, fun b => AllOk.mono h (k b) (q.2.2 b)⟩
theorem AllOk.wp {α : Type} {n : Nat} {P : α -> Prop} {cmp : Nat -> Nat -> (Bool -> Shared -> Prop) -> Shared -> Prop} {Q : α -> Shared -> Prop} {s : Shared} (hc : ∀ i j C, i < n -> j < n -> (∀ b, C b s) -> cmp i j C s) (hq : ∀ a, P a -> Q a s) :
  ∀ (t : KasT α), AllOk n P t -> t.kasWp cmp Q s
 | .ret a, h => hq a h
 | .ask i j k, h => hc i j _ h.1 h.2.1 fun b => AllOk.wp hc hq (k b) (h.2.2 b)
noncomputable abbrev PermN (n : Nat) (p : Array Nat) : Prop := p.toList.Perm (List.range n)
theorem PermN.lt {n : Nat} {p : Array Nat} (h : PermN n p) (hn : 0 < n) (k : Nat) : p.getD k 0 < n := by
 by_cases hk : k < p.size
 ·have : p.getD k 0 = p[k] := by simp [Array.getD, hk]
  rw [this]
  exact List.mem_range.mp (h.mem_iff.mp (by simp))
 ·have : p.getD k 0 = 0 := by simp [Array.getD, hk]
  refine (this).symm ▸ ?_; exact hn
theorem PermN.rev {n : Nat} {p : Array Nat} (h : PermN n p) (i j : Nat) : PermN n (kas_rev p i j) := (Array.perm_iff_toList_perm.mp (mirror_perm p i j _)).trans h
theorem PermN.bub {n : Nat} {p : Array Nat} (h : PermN n p) (i j : Nat) : PermN n (bubble p i j) := (Array.perm_iff_toList_perm.mp (bubble_perm p i j)).trans h
variable {n : Nat}
theorem ok_asc {p : Array Nat} (h : PermN n p) (hn : 0 < n) : ∀ (f k : Nat), AllOk n (fun _ => True) (kas_asc p f k)
 | 0, _ => trivial
 | f + 1, k => ⟨h.lt hn _, h.lt hn _, fun b => by
  cases b
  ·dsimp only [Bool.false_eq_true, if_false]; exact ok_asc h hn f (k + 1)
  ·dsimp only [if_true]; trivial⟩
theorem ok_desc (hn : 0 < n) : ∀ (f : Nat) (p : Array Nat) (k q : Nat), PermN n p -> AllOk n (fun r => PermN n r.1) (kas_desc f p k q)
 | 0, _, _, _, h => h
 | f + 1, p, k, q, h => ⟨h.lt hn _, h.lt hn _, fun b => by
  cases b
  ·skip
   exact ⟨h.lt hn _, h.lt hn _, fun d => by
    cases d
    ·dsimp only [Bool.false_eq_true, if_false]; exact ok_desc hn f p _ _ h
    ·dsimp only [if_true]; exact h⟩
  ·skip
   split
   ·exact ok_desc hn f _ _ _ (h.rev _ _)
   ·exact ok_desc hn f _ _ _ h⟩
theorem ok_tail {p : Array Nat} (h : PermN n p) (hn : 0 < n) (a b : Nat) : AllOk n (fun r => PermN n r.2) (kas_tail3 a b p) :=
 AllOk.bind _ (ok_asc (h.rev _ _) hn _ _) fun _ _ => h.rev _ _
theorem ok_descPart {p : Array Nat} (h : PermN n p) (hn : 0 < n) (a b : Nat) : AllOk n (fun r => PermN n r.2) (kas_descPart a b p) := by
 skip
 refine AllOk.bind _ (ok_desc hn _ p _ _ h) fun r hr => ?_
 split
 ·exact ok_tail (hr.rev _ _) hn _ _
 ·exact ok_tail hr hn _ _
theorem ok_count {p : Array Nat} (h : PermN n p) (hn : 0 < n) (b : Nat) : AllOk n (fun r => PermN n r.2) (kas_count b p) := by
 skip
 refine AllOk.bind _ (ok_asc h hn _ _) fun m _ => ?_
 split
 ·exact h
 ·split
  ·refine ⟨h.lt hn _, h.lt hn _, fun c => ?_⟩
   cases c
   ·dsimp only [Bool.false_eq_true, if_false]; exact ok_descPart (h.rev _ _) hn _ _
   ·dsimp only [if_true]; exact h
  ·exact ok_descPart h hn _ _
theorem ok_place {p : Array Nat} (h : PermN n p) (hn : 0 < n) (k : Nat) : ∀ (f l r : Nat), AllOk n (fun _ => True) (kas_place p k f l r)
 | 0, _, _ => trivial
 | f + 1, l, r => by
  unfold kas_place
  split
  ·trivial
  ·refine ⟨h.lt hn _, h.lt hn _, fun c => ?_⟩
   cases c
   ·dsimp only [Bool.false_eq_true, if_false]; exact ok_place h hn k f _ _
   ·dsimp only [if_true]; exact ok_place h hn k f _ _
theorem ok_bin (hn : 0 < n) : ∀ (f : Nat) (p : Array Nat) (k : Nat), PermN n p -> AllOk n (fun r => PermN n r) (kas_bin f p k)
 | 0, _, _, h => h
 | f + 1, p, k, h => AllOk.bind _ (ok_place h hn k k 0 k) fun _ _ => ok_bin hn f _ _ (h.bub _ _)
theorem ok_sort (hn : 0 < n) : AllOk n (fun p => PermN n p) (kas_sort n) := by
 skip
 refine AllOk.bind _ (ok_count (p := List.toArray (List.range n)) List.Perm.rfl hn n) fun r hr => ?_
 split
 ·exact ok_bin hn _ _ _ hr
 ·exact hr
section
variable {prog : Program} {w : World} {A : Around} {E : Value -> Shared -> Prop} {s : Shared}
theorem oneLt_any {b : Bool} {i j : Int} {t u : Tok} {Q : Bool -> Shared -> Prop} (h : ∀ c, Q c s) : wpAny (model prog w) A (oneLt' b (.int i t) (.int j u)) Q E s := by
 cases b with
 | true => exact oneLt_int (h _)
 | false =>
  refine kat_one _ _ ?_
  exact PyProof.Rows.lt_int (show W.BoolBack Q (.bool _) s from h _)
theorem lex_any {b fin : Bool} {Q : Bool -> Shared -> Prop} (h : ∀ c, Q c s) : ∀ (l : List (Value × Value)) (i : Nat), (∀ p ∈ l, (∃ n t, p.1 = .int n t) /\ ∃ n t, p.2 = .int n t) -> KatLex prog w A b fin Q l i s
 | [], i, _ => h fin
 | (p, q) :: r, i, hl => by
  obtain ⟨⟨n1, t1, e1⟩, n2, t2, e2⟩ := hl (p, q) (by simp)
  dsimp only at e1 e2
  subst e1; subst e2
  refine (?_ : wpAny (model prog w) A (eqBool (.int n1 t1) (.int n2 t2)) _ _ s)
  refine wpAny_eqBool_int ?_
  split
  ·exact lex_any h r (i + 1) fun p hp => hl p (by simp [hp])
  ·exact oneLt_any h
theorem isTI_ints {ns : List Int} {ts : List Tok} {items : Array Value} (hi : items.toList = (ns.zip ts).map fun x => Value.int x.1 x.2) : ∀ v ∈ items.toList, ∃ n t, v = .int n t := fun v hv => isTI_items (hi ▸ hv)
theorem list_sort_tup {a : Addr} {vs : List Value} {n : Nat} {P : PySem.Fin -> Shared -> Prop} (ho : s.heap.get? a = some (seqObj "list" vs.toArray n))
  (hT : ∀ v ∈ vs, ∃ b ns, v = .ref b /\ IsTI s.heap ns b /\ ns ≠ [] /\ b ≠ a) (h64 : vs.length < 64)
  (h : ∀ (out : Array Value), out.toList.Perm vs -> P (.done (.ret .none)) { s with heap := sortedHeap s.heap a vs out }) :
  wpAny (model prog w) A (Builtin.«list.sort» ⟨[.ref a], []⟩) P E s := by
 rw [list_sort_plain]
 have ha : a < s.heap.objs.size := Heap.lt_size ho
 refine wpAny_bind (listItems_at ho rfl ?_)
 refine wpAny_bind (listUpdate_at ho rfl ?_)
 refine x11 (⟨_, get?_update_seq ho (fun _ => #[])⟩ : ∃ e1, (s.heap.update a (Obj.mapSeq fun _ => #[])).get? a = some (seqObj "list" #[] e1)) fun e1 ho1 => ?_
 refine wpAny_bind (seqEpoch_at ho1 rfl ?_)
 refine wpAny_bind (wpAny_newTuple ?_)
 refine wpAny_bind (wpAny_newList ?_)
 refine wpAny_holding ?_
 have ho6 : (((s.heap.update a (Obj.mapSeq fun _ => #[])).push (seqObj "tuple" vs.toArray 0)).push (seqObj "list" #[] 0)).get? a = some (seqObj "list" #[] e1) := by
  rw [Heap.get?_push_ne _ _ _ (by rw [size_push', Heap.size_update]; exact Nat.ne_of_lt (Nat.lt_succ_of_lt ha)), Heap.get?_push_ne _ _ _ (by rw [Heap.size_update]; exact Nat.ne_of_lt ha)]
  exact ho1
 refine (?_ : wpAny (model prog w) A _ P E { s with heap := ((s.heap.update a (Obj.mapSeq fun _ => #[])).push (seqObj "tuple" vs.toArray 0)).push (seqObj "list" #[] 0) })
 dsimp only
 have hsz : vs.toArray.size = vs.length := by rfl
 have oth : ∀ b o, b ≠ a -> s.heap.get? b = some o -> (((s.heap.update a (Obj.mapSeq fun _ => #[])).push (seqObj "tuple" vs.toArray 0)).push (seqObj "list" #[] 0)).get? b = some o := fun b o hb e =>
  Heap.get?_push_of_some _ (Heap.get?_push_of_some _ ((Heap.get?_update_ne _ _ _ _ hb).trans e))
 by_cases h2 : vs.toArray.size < 2
 ·rw [if_pos h2, if_pos h2]
  refine wpAny_bind (wpAny_pure ?_)
  rw [StateT.run_pure]
  refine wpAny_bind (wpAny_pure ?_)
  dsimp only
  refine wpAny_bind (seqEpoch_at ho6 rfl ?_)
  have hms : (arrOf (SortSt.mk' general' (vs.toArray.zip vs.toArray) #[] 7 none)).map (·.2) = vs.toArray := by
   refine (?_ : (vs.toArray.zip vs.toArray).map (·.2) = vs.toArray)
   apply Array.toList_inj.mp
   simp only [Array.toList_map, Array.toList_zip, List.toList_toArray]
   exact List.map_snd_zip (Nat.le_refl _)
  rw [hms]
  refine wpAny_bind (listUpdate_at ho6 rfl ?_ (hsz2 := by rw [hsz, sizeLine_eq]; lia))
  refine wpAny_ite_false (by first | rfl | simp) ?_
  exact wpAny_pure (h vs.toArray .rfl)
 ·rw [if_neg h2, if_neg h2]
  have hlen2 : 2 ≤ vs.length := by rw [hsz] at h2; lia
  -- the kind of the keys
  have hfirsts : ∀ (l : List Value), (∀ v ∈ l, ∃ b ns, v = .ref b /\ IsTI s.heap ns b /\ ns ≠ [] /\ b ≠ a) ->
    ∃ fs, KatTups (((s.heap.update a (Obj.mapSeq fun _ => #[])).push (seqObj "tuple" vs.toArray 0)).push (seqObj "list" #[] 0)) l fs /\ fs.length = l.length /\ ∀ v ∈ fs, ∃ n t, v = Value.int n t := by
   intro l hl
   induction l with
   | nil => exact ⟨[], KatTups.nil, rfl, by simp⟩
   | cons v r ih =>
    refine hidG fun GG hGG => ?_
    obtain ⟨b, ns, rfl, ⟨o, items, m, ho', hc, hd, ts, hlt, hi⟩, hne, hba⟩ := hl v (by simp)
    refine x13 (ih fun v hv => hl v (by simp [hv])) fun fs hk hl' hf => ?_
    refine hGG ?_
    cases ns with
    | nil => exact absurd rfl hne
    | cons x ns =>
     cases ts with
     | nil => simp at hlt
     | cons tk ts =>
      have h0 : items[0]? = some (.int x tk) := by rw [← Array.getElem?_toList, hi]; rfl
      exact ⟨.int x tk :: fs, KatTups.cons (oth b o hba ho') hc hd h0 hk, by simp [hl'], fun v hv => by
       rcases List.mem_cons.mp hv with rfl | hv
       ·exact ⟨x, tk, rfl⟩
       ·exact hf v hv⟩
  refine x13 (hfirsts vs hT) fun fs hk hfl hfi => ?_
  refine wpAny_bind (kat_kind (s := { s with heap := ((s.heap.update a (Obj.mapSeq fun _ => #[])).push (seqObj "tuple" vs.toArray 0)).push (seqObj "list" #[] 0) }) (T := .type "int") hk (by lia) (fun v hv => ?_) rfl ?_)
  ·refine x21 (hfi v hv) fun n t q94 => ?_; subst q94
   exact Looks.of_pure rfl
  ·have hw : (kas_sort vs.length).kasWp (kas_ask prog w A (tuples' (Value.type "int" != Value.type "tuple")) vs) (fun p s' => s' = { s with heap := ((s.heap.update a (Obj.mapSeq fun _ => #[])).push (seqObj "tuple" vs.toArray 0)).push (seqObj "list" #[] 0) } /\ PermN vs.length p)
     { s with heap := ((s.heap.update a (Obj.mapSeq fun _ => #[])).push (seqObj "tuple" vs.toArray 0)).push (seqObj "list" #[] 0) } := by
    refine AllOk.wp (n := vs.length) (P := PermN vs.length) (fun i j C hi hj hC => ?_) (fun p hp => ⟨rfl, hp⟩) _ (ok_sort (by lia))
    unfold kas_ask
    have gi : vs.getD i Value.none = vs[i] := by simp [hi]
    have gj : vs.getD j Value.none = vs[j] := by simp [hj]
    rw [gi, gj]
    refine hidG fun GG hGG => ?_
    obtain ⟨b1, n1, e1, ⟨o1, x1, m1, q1, _, d1, t1, l1, i1⟩, _, z1⟩ := hT vs[i] (List.getElem_mem hi)
    obtain ⟨b2, n2, e2, ⟨o2, x2, m2, q2, _, d2, t2, l2, i2⟩, _, z2⟩ := hT vs[j] (List.getElem_mem hj)
    refine hGG ?_
    rw [e1, e2]
    refine kat_lt (oth b1 o1 z1 q1) d1 (oth b2 o2 z2 q2) d2 (lex_any hC _ _ fun p hp => ?_)
    have hp1 := List.of_mem_zip (show (p.1, p.2) ∈ x1.toList.zip x2.toList from hp)
    exact ⟨isTI_ints i1 _ hp1.1, isTI_ints i2 _ hp1.2⟩
   refine wpAny_bind (wpAny_mono (kat_run (s := { s with heap := ((s.heap.update a (Obj.mapSeq fun _ => #[])).push (seqObj "tuple" vs.toArray 0)).push (seqObj "list" #[] 0) })
    (Q := fun st' s' => s' = { s with heap := ((s.heap.update a (Obj.mapSeq fun _ => #[])).push (seqObj "tuple" vs.toArray 0)).push (seqObj "list" #[] 0) } /\ ∃ p : Array Nat, PermN vs.length p /\ arrOf st' = p.map (kas_item (vs.toArray.zip vs.toArray)) /\ failedOf st' = none)
    rfl hlen2 h64 (fun p st' s' a1 a2 a3 a4 => ⟨a4.1, p, a4.2, a2, a3⟩) hw) ?_ fun _ _ e => e)
   ·rintro ⟨⟨⟩, st'⟩ s' ⟨rfl, p, hp, har, hf⟩
    skip
    refine wpAny_bind (seqEpoch_at ho6 rfl ?_)
    have hout := kat_snds (ks := vs) (vs := vs) rfl har
    have hpm : (List.toArray (p.toList.map fun i => vs.getD i Value.none)).toList.Perm vs := by
     refine (?_ : (p.toList.map fun i => vs.getD i Value.none).Perm vs)
     refine (hp.map _).trans ?_
     have : (List.range vs.length).map (fun i => vs.getD i Value.none) = vs := by
      apply List.ext_getElem?
      intro i
      refine (List.getElem?_map).symm ▸ ?_
      by_cases hi : i < vs.length
      ·rw [List.getElem?_range hi]; simp [hi]
      ·rw [List.getElem?_eq_none (by simpa using hi), List.getElem?_eq_none (by lia)]; rfl
     rw [this]
    refine (hout).symm ▸ ?_
    have hsz2 : (List.toArray (p.toList.map fun i => vs.getD i Value.none)).size = vs.length := by have := hpm.length_eq; simpa using this
    refine wpAny_bind (listUpdate_at ho6 rfl ?_ (hsz2 := by rw [hsz2, sizeLine_eq]; lia))
    rw [hf]
    simp only [bne_self_eq_false, Bool.false_eq_true, if_false]
    exact wpAny_pure (h _ hpm)
end
end
-- SetList
section
open PySem
open PySem.SetTable PySem.Builtin.Frozenset
noncomputable abbrev listO (xs : Array Value) (c : Nat) : Obj := { cls := .type "list", dict := none, data := .seq xs c, slots := #[] }
noncomputable def OffKeep (D : List Addr) (h h' : Heap) : Prop := ∀ b o, b ∉ D -> h.get? b = some o -> h'.get? b = some o
section
variable {prog : Program} {w : World} {A : Around} {E : Value -> Shared -> Prop} {s : Shared} {a D : Addr} {es : Array (Int × Value)} {t : SetTable} {lim : Nat} {o : Obj}
theorem hint_set {Q : Bool -> Shared -> Prop} (hT : s.TypeIs (.ref a) "set") (h : Q false s) : wpAny (model prog w) A (Builtin.List.listLengthHint (.ref a)) Q E s := by
 skip
 refine wpAny_bind (wpAny_specialOf hT PySem.F.slot_set_len.lookup ?_)
 dsimp only
 rw [show splitId "set.__len__" = some ("set", "__len__") from by decide +kernel]
 skip
 refine wpAny_bind (wpAny_isInstance hT sub_set_set ?_)
 refine wpAny_ite_false (by first | rfl | rfl) ?_
 refine (?_ : wpAny _ _ (typeOf (.ref a) >>= _) _ _ _)
 refine wpAny_bind (wpAny_typeOf hT ?_)
 exact wpAny_pure h
theorem extend_set {R : Result -> Shared -> Prop} {c0 : Nat} {res : Value} (hh : A.handled = none) (hD : s.heap.get? D = some (listO #[] c0)) (ho : s.heap.get? a = some o) (b : SetBe lim o es t) (hled : t.led = !byText w)
  (hR : ∀ (h' : Heap) (tk : Nat) (dr : Drawn) (arr : Array (Int × Value)) (c' : Nat), arr.toList.Perm es.toList -> OffKeep [D] s.heap h' -> h'.get? D = some (listO (arr.map (·.2)) c') -> R (.ok (.ret res)) { s with heap := h', toks := tk, drawn := dr }) :
  wpAny (model prog w) A.in1 (Builtin.List.listExtendWith (.ref D) (.ref a) res)
   (fun fin s' => match fin with | .done f => R (.ok f) s' | .again c' => c'.quiet = true /\ codeAny (model prog w) A c' R s') (fun e s' => R (.error e) s') s := by
 have hoc : o.cls = .type "set" := by obtain ⟨ep, rfl, _⟩ := b; rfl
 have hT : s.TypeIs (.ref a) "set" := ⟨o, ho, hoc⟩
 have hDa : D ≠ a := by rintro rfl; rw [hD] at ho; cases ho; simp at hoc
 skip
 refine wpAny_bind (wpAny_typeOf hT ?_)
 have h1 : (Builtin.List.listSameRef (.ref D) (.ref a) || Value.type "set" == Value.type "list" || Value.type "set" == Value.type "tuple") = false := by
  have : (D == a) = false := by simpa using hDa
  simp [Builtin.List.listSameRef, this]
 rw [h1]
 refine wpAny_ite_false (by first | rfl | rfl) ?_
 refine wpAny_bind (pyIter_set ho b hled fun h1 dr I arr fp St W => ?_)
 have ho1 := W.keep _ _ ho
 have hD1 := W.keep _ _ hD
 refine wpAny_bind (wpAny_holding (hint_set (s := { s with heap := h1, drawn := dr }) ⟨o, ho1, hoc⟩ ?_))
 have hra : (false || (["set", "frozenset", "dict", "dict_keys", "dict_values", "dict_items"].map (· ++ "")).any fun t' => Value.type "set" == Value.type t') = true := by decide
 refine (?_ : wpAny _ _ (if (false || _) = true then _ else _) _ _ _)
 refine wpAny_ite_true (decide_eq_true (by rfl)) ?_
 refine wpAny_bind (wpAny_rule ?_)
 -- the touch
 show wpAny _ A.in1 ((updateSeq D (·.push .none) >>= fun _ => updateSeq D (·.pop)) >>= _) _ _ _
 refine wpAny_bind (wpAny_bind (wpAny_updateSeq (s := { s with heap := h1, drawn := dr }) hD1 rfl ?_ (by decide) (by decide)))
 have hD2 := Heap.get?_update_self (Obj.mapSeq (·.push Value.none)) hD1 rfl
 refine wpAny_updateSeq (s := { s with heap := h1.update D (Obj.mapSeq (·.push Value.none)), drawn := dr }) hD2 rfl ?_ (by decide) (by decide)
 have hD3 := Heap.get?_update_self (Obj.mapSeq (·.pop)) hD2 rfl
 generalize hH3 : (h1.update D (Obj.mapSeq (·.push Value.none))).update D (Obj.mapSeq (·.pop)) = h3 at *
 have hD3' : ∃ c3, h3.get? D = some (listO #[] c3) := ⟨_, by rw [hD3]; rfl⟩
 refine x11 hD3' fun c3 hD3' => ?_
 have oth : ∀ b o, b ≠ D -> h1.get? b = some o -> h3.get? b = some o := fun b o hb e => by
  refine (hH3) ▸ ?_
  exact (Heap.get?_update_ne _ _ _ _ hb).trans ((Heap.get?_update_ne _ _ _ _ hb).trans e)
 have hDfp : D ∉ fp := fun hm => by
  refine Or.elim ((W.fps D hm).2) (fun q => ?_) fun q => ?_
  ·exact hDa q
  ·rw [hD] at q; cases q
 have Wk := (W.walks A.in1 hh).toS
 have hst : St 0 h3 := (W.walks A.in1 hh).frame 0 h1 h3 W.start fun b hb o e => oth b o (fun q => hDfp (q ▸ hb)) e
 have hDI : D ≠ I := fun q => by have := W.self; rw [← q, hD] at this; cases this
 refine wpAny_pure ⟨plainId_quiet F.plain_extend_loop _, ?_⟩
 have hasz : arr.size ≤ sizeLine := by
  have : arr.size = es.size := by rw [← Array.length_toList, W.perm.length_eq, Array.length_toList]
  obtain ⟨_, _, ok⟩ := b
  have := ok.le; have := ok.lim18
  refine (sizeLine_eq).symm ▸ ?_; lia
 refine codeAny_extend_loopS Wk hasz D hDfp res arr.size 0 { s with heap := h3, drawn := dr } #[] c3 rfl (Nat.zero_le _) hst hD3' (ItemsOf.nil _) fun s' acc' c' hm hS' hacc => ?_
 have hacc2 : acc' = arr.map (·.2) := by
  apply Array.toList_inj.mp
  apply List.ext_getElem?
  intro i
  rw [Array.toList_map, List.getElem?_map, Array.getElem?_toList, Array.getElem?_toList]
  by_cases hi : i < arr.size
  ·have hi' : i < acc'.size := by rw [hacc.1]; exact hi
   refine x12 (hacc.2 i acc'[i] (Array.getElem?_eq_getElem hi')) fun e he hv => ?_
   rw [Array.getElem?_eq_getElem hi', he, hv]; rfl
  ·have hi' : ¬ i < acc'.size := by rw [hacc.1]; exact hi
   rw [Array.getElem?_eq_none (by lia), Array.getElem?_eq_none (by lia)]; rfl
 subst hacc2
 have e : s' = { s with heap := s'.heap, toks := s'.toks, drawn := s'.drawn } := by
  have g := hm.gens
  have d := hm.os
  obtain ⟨sh, sg, sd, st, so⟩ := s'
  skip
  subst g; subst d; rfl
 have fin := hR s'.heap s'.toks s'.drawn arr c' W.perm (fun b o hb e => hm.heap b o (fun q => ?_) (oth b o (fun q => hb (by simp [q])) (W.keep b o e))) hS'
 ·refine (e).symm ▸ ?_; exact fin
 ·simp at q hb
  rcases q with q | q
  ·exact hb q
  ·subst q; rw [W.self] at e; cases e
theorem iadd_set {R : Result -> Shared -> Prop} {c0 : Nat} (hh : A.handled = none) (hD : s.heap.get? D = some (listO #[] c0)) (ho : s.heap.get? a = some o) (b : SetBe lim o es t) (hled : t.led = !byText w)
  (hR : ∀ (h' : Heap) (tk : Nat) (dr : Drawn) (arr : Array (Int × Value)) (c' : Nat), arr.toList.Perm es.toList -> OffKeep [D] s.heap h' -> h'.get? D = some (listO (arr.map (·.2)) c') -> R (.ok (.ret (.ref D))) { s with heap := h', toks := tk, drawn := dr }) :
  codeAny (model prog w) A (.builtin "list.__iadd__" ⟨[.ref D, .ref a], []⟩) R s := by
 refine codeAny_builtin F.entry_list_iadd ?_
 refine (Around.under_plainId F.plain_list_iadd _).symm ▸ ?_
 refine (?_ : wpAny _ A.in1 (Builtin.List.listExtendWith (.ref D) (.ref a) (.ref D)) _ _ _)
 exact extend_set hh hD ho b hled hR
theorem collect_set {Q : List Value -> Shared -> Prop} (hh : A.handled = none) (ho : s.heap.get? a = some o) (b : SetBe lim o es t) (hled : t.led = !byText w)
  (hQ : ∀ (h' : Heap) (tk : Nat) (dr : Drawn) (arr : Array (Int × Value)), arr.toList.Perm es.toList -> (∀ b o, s.heap.get? b = some o -> h'.get? b = some o) -> Q (arr.toList.map (·.2)) { s with heap := h', toks := tk, drawn := dr }) :
  wpAny (model prog w) A (collect (.ref a)) Q E s := by
 skip
 refine wpAny_bind (wpAny_runValue (codeAny_builtin F.entry_proto_collect ?_))
 refine (Around.under_plainId F.plain_proto_collect _).symm ▸ ?_
 refine (?_ : wpAny _ A.in1 (newList [] >>= fun l => again (.builtin "list.__iadd__" ⟨[l, .ref a], []⟩)) _ _ s)
 refine wpAny_bind (wpAny_newObj_type ?_)
 refine wpAny_pure ⟨plainId_quiet F.plain_list_iadd _, ?_⟩
 refine iadd_set (s := { s with heap := s.heap.push (listO #[] 0) }) hh (Heap.get?_push_size _ rfl) (Heap.get?_push_of_some _ ho) b hled fun h' tk dr arr c' hp hk hD => ?_
 refine (?_ : wpAny _ A (load s.heap.objs.size >>= _) _ _ _)
 refine wpAny_bind (wpAny_load hD ?_)
 dsimp only
 have : (arr.map (·.2)).toList = arr.toList.map (·.2) := by simp
 refine (this).symm ▸ ?_
 refine wpAny_pure (hQ h' tk dr arr hp fun b o e => hk b o (fun q => ?_) (Heap.get?_push_of_some _ e))
 simp at q
 subst q
 exact absurd (Heap.lt_size e) (Nat.lt_irrefl _)
theorem call_list_set {Q : Value -> Shared -> Prop} (hh : A.handled = none) (ho : s.heap.get? a = some o) (b : SetBe lim o es t) (hled : t.led = !byText w)
  (hQ : ∀ (h' : Heap) (tk : Nat) (dr : Drawn) (arr : Array (Int × Value)) (c' : Nat), arr.toList.Perm es.toList -> (∀ b o, s.heap.get? b = some o -> h'.get? b = some o) -> h'.get? s.heap.objs.size = some (listO (arr.map (·.2)) c') ->
   Q (.ref s.heap.objs.size) { s with heap := h', toks := tk, drawn := dr }) :
  wpAny (model prog w) A (call (.type "list") [.ref a]) Q E s := by
 have hne : a ≠ s.heap.objs.size := fun e => Nat.lt_irrefl _ (e ▸ Heap.lt_size ho)
 refine callType_codes (Q₁ := fun obj sz1 => obj = .ref s.heap.objs.size /\ sz1 = { s with heap := s.heap.push { cls := .type "list", data := .seq #[] } }) F.called_list (F.typeCall_list_1 _) F.entry_list_init
  (code_list_new _ ⟨rfl, rfl⟩) fun obj sz1 hz1 => ?_
 obtain ⟨rfl, rfl⟩ := hz1
 have hS : (s.heap.push { cls := .type "list", data := .seq #[] }).get? s.heap.objs.size = some { cls := .type "list", data := .seq #[] } := Heap.get?_push_size _ rfl
 refine ⟨⟨_, hS, rfl⟩, F.args_list_init_2 _ _, ?_⟩
 refine (?_ : wpAny _ A.in1.in1 (do let old ← Builtin.List.listItems (.ref s.heap.objs.size); Builtin.List.listUpdate (.ref s.heap.objs.size) (fun _ => #[]); letGo old.toList.reverse; Builtin.List.listExtendWith (.ref s.heap.objs.size) (.ref a) .none) _ _ _)
 refine wpAny_bind ?_
 skip
 refine wpAny_bind (wpAny_seqItems hS rfl (wpAny_pure ?_))
 refine (?_ : wpAny _ A.in1.in1 (updateSeq s.heap.objs.size (fun _ => #[]) >>= fun _ => letGo (#[] : Array Value).toList.reverse >>= fun _ => Builtin.List.listExtendWith (.ref s.heap.objs.size) (.ref a) .none) _ _ _)
 refine wpAny_bind (wpAny_updateSeq hS rfl ?_)
 have hS2 := Heap.get?_update_self (Obj.mapSeq (fun _ => (#[] : Array Value))) hS rfl
 have hoth : ∀ b o, s.heap.get? b = some o -> ((s.heap.push { cls := .type "list", data := .seq #[] }).update s.heap.objs.size (Obj.mapSeq fun _ => #[])).get? b = some o := fun b o e =>
  (Heap.get?_update_ne _ _ _ _ (Nat.ne_of_lt (Heap.lt_size e))).trans (Heap.get?_push_of_some _ e)
 refine wpAny_bind (wpAny_letGo ?_)
 refine extend_set (s := { s with heap := (s.heap.push { cls := .type "list", data := .seq #[] }).update s.heap.objs.size (Obj.mapSeq fun _ => #[]) }) hh (c0 := 0) hS2 (hoth _ _ ho) b hled fun h' tk dr arr c' hp hk hD => ⟨rfl, ?_⟩
 refine hQ h' tk dr arr c' hp (fun b o e => hk b o (fun q => ?_) (hoth b o e)) hD
 simp at q
 subst q
 exact absurd (Heap.lt_size e) (Nat.lt_irrefl _)
end
open PyProof.Rows in
section
variable {prog : Program} {w : World} {A : Around} {E : Value -> Shared -> Prop} {s : Shared} {a D : Addr} {es : Array (Int × Value)} {t : SetTable} {lim : Nat} {o : Obj}
theorem sorted_set {Q : Value -> Shared -> Prop} {G : Array Value -> Prop} (hh : A.handled = none) (ho : s.heap.get? a = some o) (b : SetBe lim o es t) (hled : t.led = !byText w)
  (hsort : ∀ (s' : Shared) (A' : Around) (E' : Value -> Shared -> Prop) (D : Addr) (vs : List Value) (n : Nat) (P : Fin -> Shared -> Prop), (∀ b o, s.heap.get? b = some o -> s'.heap.get? b = some o) -> s.heap.get? D = none -> vs.Perm (es.toList.map (·.2)) -> s'.heap.get? D = some (seqObj "list" vs.toArray n) ->
   (∀ out : Array Value, G out -> P (.done (.ret .none)) { s' with heap := sortedHeap s'.heap D vs out }) -> wpAny (model prog w) A' (Builtin.«list.sort» ⟨[.ref D], []⟩) P E' s')
  (hQ : ∀ (h' : Heap) (tk : Nat) (dr : Drawn) (r : Addr) (out : Array Value) (c' : Nat), G out -> (∀ b o, s.heap.get? b = some o -> h'.get? b = some o) -> s.heap.get? r = none -> h'.get? r = some (listO out c') ->
   Q (.ref r) { s with heap := h', toks := tk, drawn := dr }) :
  wpAny (model prog w) A (call (.builtin "sorted") [.ref a]) Q E s := by
 refine Calls.call_function_entry kind_sorted plain_sorted entry_sorted (args_sorted1 _) ?_
 skip
 refine wpAny_bind (m := checkCount "sorted" 1 1 _) (wpAny_pure ?_)
 refine wpAny_bind (collect_set hh ho b hled fun h1 tk dr arr hp hk => ?_)
 have hlim : arr.toList.length ≤ 18 := by
  rw [hp.length_eq, Array.length_toList]
  obtain ⟨_, _, ok⟩ := b
  have := ok.le; have := ok.lim18; lia
 refine wpAny_bind (wpAny_newList ?_ (by rw [List.length_map, sizeLine_eq]; lia))
 have hnew : s.heap.get? h1.objs.size = none := by
  cases e : s.heap.get? h1.objs.size with
  | none => rfl
  | some o' => exact absurd (Heap.lt_size (hk _ _ e)) (Nat.lt_irrefl _)
 have hoL : (h1.push (seqObj "list" (arr.toList.map (·.2)).toArray 0)).get? h1.objs.size = some (seqObj "list" (arr.toList.map (·.2)).toArray 0) := Heap.get?_push_size _ rfl
 have hk2 : ∀ b o, s.heap.get? b = some o -> (h1.push (seqObj "list" (arr.toList.map (·.2)).toArray 0)).get? b = some o := fun b o e => Heap.get?_push_of_some _ (hk b o e)
 refine wpAny_bind (wpAny_holding (wpAny_call_entry (s := { s with heap := h1.push (seqObj "list" (arr.toList.map (·.2)).toArray 0), toks := tk, drawn := dr }) slot_list_sort ⟨_, hoL, rfl⟩ entry_list_sort (hsort _ _ _ _ _ 0 _ hk2 hnew (hp.map _) hoL fun out hG => ⟨_, rfl, ?_⟩) (args_list_sort _)))
 refine x11 (sortedHeap_at (out := out) hoL) fun e' he' => ?_
 refine wpAny_pure ⟨_, rfl, hQ _ tk dr _ out e' hG (fun b o e => ?_) hnew he'⟩
 have hbne : b ≠ h1.objs.size := fun q => by rw [q, hnew] at e; cases e
 exact (sortedHeap_old hbne (Heap.lt_size (hk2 b o e))).trans (hk2 b o e)
end
end
-- SetFin
section
open PySem PyProof.Rows
open PySem.SetTable PySem.Builtin.Frozenset
theorem keys_ints {hash : Int -> Int} : ∀ {es : List (Int × Value)} {l : List Int}, KeysAre hash (fun n v => ∃ t, v = Value.int n t) es l -> IntsAre (es.map (·.2)) l
 | [], l, h => by
  have : l = [] := List.eq_nil_of_length_eq_zero (by have := h.1; simpa using this.symm)
  subst this; exact .nil
 | e :: es, l, h => by
  refine x24 h.uncons fun k l' q91 _ q92 h' => ?_; subst q91; refine x11 q92 fun t ht => ?_
  rw [List.map_cons, ht]
  exact .cons k t (keys_ints h')
theorem keys_strs {hash : Str -> Int} : ∀ {es : List (Int × Value)} {l : List Str}, KeysAre hash (fun n v => ∃ t, v = Value.str n t) es l -> StrsAre (es.map (·.2)) l
 | [], l, h => by
  have : l = [] := List.eq_nil_of_length_eq_zero (by have := h.1; simpa using this.symm)
  subst this; exact .nil
 | e :: es, l, h => by
  refine x24 h.uncons fun k l' q93 _ q94 h' => ?_; subst q93; refine x11 q94 fun t ht => ?_
  rw [List.map_cons, ht]
  exact .cons k t (keys_strs h')
theorem ints_perm {vs vs' : List Value} (p : vs'.Perm vs) : ∀ {ns : List Int}, IntsAre vs ns -> ∃ ns', IntsAre vs' ns' /\ ns'.Perm ns := by
 induction p with
 | nil => intro ns h; exact ⟨ns, h, .rfl⟩
 | cons x _ ih =>
  intro ns h
  cases h with
  | cons n t h =>
   refine x12 (ih h) fun ns' h1 h2 => ?_
   exact ⟨n :: ns', .cons n t h1, h2.cons n⟩
 | swap x y _ =>
  intro ns h
  cases h with
  | cons n t h =>
   cases h with
   | cons n' t' h => exact ⟨n' :: n :: _, .cons _ _ (.cons _ _ h), .swap _ _ _⟩
 | trans _ _ ih1 ih2 =>
  intro ns h
  refine x12 (ih2 h) fun n1 h1 p1 => ?_
  refine x12 (ih1 h1) fun n2 h2 p2 => ?_
  exact ⟨n2, h2, p2.trans p1⟩
theorem strs_perm {vs vs' : List Value} (p : vs'.Perm vs) : ∀ {ns : List Str}, StrsAre vs ns -> ∃ ns', StrsAre vs' ns' /\ ns'.Perm ns := by
 induction p with
 | nil => intro ns h; exact ⟨ns, h, .rfl⟩
 | cons x _ ih =>
  intro ns h
  cases h with
  | cons n t h =>
   refine x12 (ih h) fun ns' h1 h2 => ?_
   exact ⟨n :: ns', .cons n t h1, h2.cons n⟩
 | swap x y _ =>
  intro ns h
  cases h with
  | cons n t h =>
   cases h with
   | cons n' t' h => exact ⟨n' :: n :: _, .cons _ _ (.cons _ _ h), .swap _ _ _⟩
 | trans _ _ ih1 ih2 =>
  intro ns h
  refine x12 (ih2 h) fun n1 h1 p1 => ?_
  refine x12 (ih1 h1) fun n2 h2 p2 => ?_
  exact ⟨n2, h2, p2.trans p1⟩
section
variable {prog : Program} {w : World} {A : Around} {E : Value -> Shared -> Prop} {s : Shared} {a D : Addr} {lim : Nat}
theorem sorted_ints_at {l : List Int} {Q : Value -> Shared -> Prop} (hh : A.handled = none) (S : SetAt (skInt prog w) lim s.heap a l)
  (hQ : ∀ (h' : Heap) (tk : Nat) (dr : Drawn) (r : Addr) (out : Array Value) (c' : Nat) (ns : List Int), IntsAre out.toList ns -> ns.Perm l -> ns.Pairwise (· ≤ ·) -> (∀ b o, s.heap.get? b = some o -> h'.get? b = some o) -> s.heap.get? r = none -> h'.get? r = some (listO out c') ->
   Q (.ref r) { s with heap := h', toks := tk, drawn := dr }) :
  wpAny (model prog w) A (call (.builtin "sorted") [.ref a]) Q E s := by
 have hlim := S.lim18
 have hle := S.le
 obtain ⟨o, es, t, ho, b, hK, hn, hok, hled, hpl⟩ := S
 have hI := keys_ints hK
 have hlen : es.toList.length = l.length := hK.1
 refine sorted_set (G := fun out => ∃ ns, IntsAre out.toList ns /\ ns.Perm l /\ ns.Pairwise (· ≤ ·)) hh ho b hled (fun s' A' E' D vs n P hk hD hp hoD h => ?_) fun h' tk dr r out c' hG hk hr ho' => ?_
 ·refine x12 (ints_perm hp hI) fun ns hI' hp' => ?_
  exact list_sort_tree hoD hI' (by rw [hp.length_eq, List.length_map]; lia) fun out ns' a1 a2 a3 => h out ⟨ns', a1, a2.trans hp', a3⟩
 ·refine x13 hG fun ns a1 a2 a3 => ?_
  exact hQ h' tk dr r out c' ns a1 a2 a3 hk hr ho'
theorem sorted_strs_at {l : List Str} {Q : Value -> Shared -> Prop} (hh : A.handled = none) (S : SetAt (skStr prog w) lim s.heap a l)
  (hQ : ∀ (h' : Heap) (tk : Nat) (dr : Drawn) (r : Addr) (out : Array Value) (c' : Nat) (ns : List Str), StrsAre out.toList ns -> ns.Perm l -> (∀ b o, s.heap.get? b = some o -> h'.get? b = some o) -> s.heap.get? r = none -> h'.get? r = some (listO out c') ->
   Q (.ref r) { s with heap := h', toks := tk, drawn := dr }) :
  wpAny (model prog w) A (call (.builtin "sorted") [.ref a]) Q E s := by
 have hlim := S.lim18
 have hle := S.le
 obtain ⟨o, es, t, ho, b, hK, hn, hok, hled, hpl⟩ := S
 have hI := keys_strs hK
 have hlen : es.toList.length = l.length := hK.1
 refine sorted_set (G := fun out => ∃ ns, StrsAre out.toList ns /\ ns.Perm l) hh ho b hled (fun s' A' E' D vs n P hk hD hp hoD h => ?_) fun h' tk dr r out c' hG hk hr ho' => ?_
 ·refine x12 (strs_perm hp hI) fun ns hI' hp' => ?_
  refine list_sort_treeK strKind_oneLt hoD hI'.keysOf (fun vz1 vz2 rest e => keyKind_strs (by rw [← e]; exact hI')) (by rw [hp.length_eq, List.length_map]; lia) fun st' q1 q2 => ?_
  refine x13 (sorted_out_str hI' q1 q2) fun ss' h1 h2 h3 => ?_
  exact h _ ⟨ss', h1, h2.trans hp'⟩
 ·refine x12 hG fun ns a1 a2 => ?_
  exact hQ h' tk dr r out c' ns a1 a2 hk hr ho'
theorem sorted_tups_at {dom : List Int -> Prop} {hdom : ∀ x y, dom x -> dom y -> thash x = thash y -> x = y} {l : List (List Int)} {Q : Value -> Shared -> Prop} (hh : A.handled = none) (S : SetAt (skTup prog w dom hdom) lim s.heap a l) (hne : ∀ k ∈ l, k ≠ [])
  (hQ : ∀ (h' : Heap) (tk : Nat) (dr : Drawn) (r : Addr) (out : Array Value) (c' : Nat), (∀ v ∈ out.toList, ∃ b k, v = .ref b /\ k ∈ l /\ IsTI s.heap k b) -> (∀ k ∈ l, ∃ v ∈ out.toList, ∃ b, v = .ref b /\ IsTI s.heap k b) -> (∀ b o, s.heap.get? b = some o -> h'.get? b = some o) -> s.heap.get? r = none -> h'.get? r = some (listO out c') ->
   Q (.ref r) { s with heap := h', toks := tk, drawn := dr }) :
  wpAny (model prog w) A (call (.builtin "sorted") [.ref a]) Q E s := by
 have hlim := S.lim18
 have hle := S.le
 obtain ⟨o, es, t, ho, b, hK, hn, hok, hled, hpl⟩ := S
 have hlen : es.toList.length = l.length := hK.1
 have hmem : ∀ v ∈ es.toList.map (·.2), ∃ b k, v = .ref b /\ k ∈ l /\ IsTI s.heap k b := by
  intro v hv
  refine x12 (List.mem_map.mp hv) fun e he q95 => ?_; subst q95
  obtain ⟨k, hk, _, b', e', hb⟩ := hK.mem_left he
  exact ⟨b', k, e', hk, hb⟩
 refine sorted_set (G := fun out => out.toList.Perm (es.toList.map (·.2))) hh ho b hled (fun s' A' E' D vs n P hk hD hp hoD h => ?_) fun h' tk dr r out c' hG hk hr ho' => ?_
 ·refine list_sort_tup hoD (fun v hv => ?_) (by rw [hp.length_eq, List.length_map]; lia) fun out hpo => h out (hpo.trans hp)
  refine x23 (hmem v (hp.mem_iff.mp hv)) fun b' k q96 hkl hb => ?_; subst q96
  refine ⟨b', k, rfl, hb.keep fun o e => hk _ _ e, hne k hkl, fun q => ?_⟩
  refine x32 hb fun o' _ _ e' _ => ?_
  rw [q, hD] at e'; cases e'
 ·refine hQ h' tk dr r out c' (fun v hv => hmem v (hG.mem_iff.mp hv)) (fun k hk' => ?_) hk hr ho'
  obtain ⟨e, he, _, b', e', hb⟩ := hK.mem_right hk'
  exact ⟨e.2, hG.mem_iff.mpr (List.mem_map.mpr ⟨e, he, rfl⟩), b', e', hb⟩
theorem plain_inter_loop : plainId "frozenset.intersection.loop" = true := by decide +kernel
theorem entry_inter_loop : entryFor table "frozenset.intersection.loop" = some Builtin.«frozenset.intersection.loop» := entryFor_of_tree (by kernel_rfl)
theorem plain_update_loop : plainId "set.update.loop" = true := by decide +kernel
theorem entry_update_loop : entryFor table "set.update.loop" = some Builtin.«set.update.loop» := entryFor_of_tree (by kernel_rfl)
end
end
-- Ctx
section
open PySem PySem.W PyProof.Rows PySem.Calls
structure Base (K : Frag) (p : Program) (loose : List Str) (mean : ExcName -> Option Value) (mg mb : Str -> Option Value) (hz0 : Heap) : Prop where
 X : K.In hz0
 T : Top p loose mean mg mb hz0
theorem rmL {a n m r : Nat} (h : a + n < r) (e : Nat.ble m n = true) : a + m < r := Nat.lt_of_le_of_lt (Nat.add_le_add_left (Nat.le_of_ble_eq_true e) a) h
noncomputable abbrev A0 (dp un : Nat) (fr : List Env) (gd : Option (List Code)) : Around := { handled := none, depth := dp, frames := some fr, guards := gd, units := un }
section
variable {prog : Program} {w : World} {K : Frag} {p : Program} {loose : List Str} {mean : ExcName -> Option Value} {mg mb : Str -> Option Value} {hz0 : Heap}
theorem enter {s : Shared} {dp un : Nat} {fr : List Env} {gd : Option (List Code)} {R : Result -> Shared -> Prop} {name qual : Str} {params : Arguments} {body : List Stmt} {scope : Scope} {dV kV doc pm cdv ct oc : Value} {an od : Option Addr} {osl : Array (Option Value)} {f : Addr} {args : Args} {binds : List (Str × Value)}
  (news : List (Addr × Obj)) (H : Base K p loose mean mg mb hz0) (hk : ∀ b o, hz0.get? b = some o -> s.heap.get? b = some o) (N : ∀ q ∈ news, s.heap.get? q.1 = some q.2 /\ hz0.get? q.1 = none)
  (ho : K.lookup f = some ⟨oc, od, .func (fnOf name qual params body scope dV kV doc pm an cdv ct), osl⟩) (hcd : codeIn K cdv qual = true) (hroom : dp < recursionLimit)
  (hbind : BindsTo s (fnOf name qual params body scope dV kV doc pm an cdv ct) args binds) (hloc : ∀ y ∈ binds, scope.names.lookup y.1 = some .local)
  (hco : scope.isCoroutine = false) (hgen : scope.isGenerator = false) (hkd : scope.kind = .function)
  (hcell : ∀ x ∈ scope.names, x.2 ≠ .cell)
  (h : ∀ g hz1, (∀ b o, s.heap.get? b = some o -> b ∉ news.map (·.1) -> g.get? b = some o) -> (∀ b o, g.get? b = some o -> s.heap.get? b = some o) -> (∀ b o, s.heap.get? b = some o -> hz1.get? b = some o) -> Fr g s.heap.objs.size hz1 (fun y => binds.reverse.lookup y) -> News g s.heap.objs.size hz1 news -> K.In g -> Top p loose mean mg mb g ->
   wpAny (model prog w) ((A0 dp un fr gd).deeper (envOf qual scope s.heap.objs.size f cdv)) (execs body (envOf qual scope s.heap.objs.size f cdv))
    (fun fl s' => R (.ok (.ret (match fl with | .ret v => v | _ => .none))) s') (fun _ _ => False)
    { s with heap := hz1, toks := s.toks + binds.length }) : codeAny (model prog w) (A0 dp un fr gd) (.call (.ref f) args) R s := by
 have X := H.X.keeps hk
 refine codeAny_call_def (fd := fnOf name qual params body scope dV kV doc pm an cdv ct) (body := body) (binds := binds) hroom (X _ _ ho) rfl (H.T.nolimit.keeps hk) (codeRec_of X hcd) rfl hbind hcell hloc (fun hz1 hns hkz1 => ?_) hco hgen hkd
 have nm : ∀ b o, hz0.get? b = some o -> b ∉ news.map (·.1) := fun b o e q => by
  refine x12 (List.mem_map.mp q) fun p hp q91 => ?_; subst q91
  rw [(N p hp).2] at e; cases e
 have st : ∀ b o, hz0.get? b = some o -> (hideAll s.heap (news.map (·.1))).get? b = some o := fun b o e => hideAll_get _ (hk b o e) (nm b o e)
 refine wpAny_mono (h (hideAll s.heap (news.map (·.1))) hz1 (fun b o e n => hideAll_get _ e n) (fun b o e => of_hideAll _ e) hkz1 ⟨hns, fun b o e => hkz1 b o (of_hideAll _ e), Nat.le_of_eq (hideAll_size _ _)⟩
  (fun p hp => ⟨hkz1 _ _ (N p hp).1, Nat.ne_of_lt (Heap.lt_size (N p hp).1), hideAll_none _ (List.mem_map_of_mem hp)⟩) (H.X.keeps st) (H.T.keeps st)) (fun _ _ x => x) fun _ _ x => x.elim
theorem fr_off {g h h' : Heap} {L : Addr} {m : Str -> Option Value} {D : List Addr} (F : Fr g L h m) (hD : ∀ d ∈ D, d ≠ L /\ g.get? d = none) (k : OffKeep D h h') : Fr g L h' m := by
 refine x32 F.ns fun oL es ep hL r => ?_
 exact ⟨⟨oL, es, ep, k _ _ (fun q => (hD _ q).1 rfl) hL, r⟩, fun b o e => k b o (fun q => by rw [(hD _ q).2] at e; cases e) (F.keep b o e), F.above⟩
theorem news_off {g h h' : Heap} {L : Addr} {news : List (Addr × Obj)} {D : List Addr} (N : News g L h news) (hD : ∀ q ∈ news, q.1 ∉ D) (k : OffKeep D h h') : News g L h' news :=
 fun q hq => ⟨k _ _ (hD q hq) (N q hq).1, (N q hq).2⟩
theorem news_cons {g h : Heap} {L : Addr} {news : List (Addr × Obj)} {a : Addr} {o : Obj} (N : News g L h news) (h1 : h.get? a = some o) (h2 : a ≠ L) (h3 : g.get? a = none) : News g L h ((a, o) :: news) :=
 fun q hq => by
  rcases List.mem_cons.mp hq with rfl | hq
  ·exact ⟨h1, h2, h3⟩
  ·exact N q hq
theorem fr_stay {g h h' : Heap} {L : Addr} {m : Str -> Option Value} (F : Fr g L h m) (k : ∀ b o, h.get? b = some o -> h'.get? b = some o) : Fr g L h' m :=
 fr_off (D := []) F (fun d hd => by simp at hd) fun b o _ e => k b o e
theorem news_stay {g h h' : Heap} {L : Addr} {news : List (Addr × Obj)} (N : News g L h news) (k : ∀ b o, h.get? b = some o -> h'.get? b = some o) : News g L h' news :=
 fun q hq => ⟨k _ _ (N q hq).1, (N q hq).2⟩
theorem fresh_off {g h : Heap} {L : Addr} {m : Str -> Option Value} {r : Addr} (F : Fr g L h m) (hr : h.get? r = none) : r ≠ L /\ g.get? r = none := by
 refine x32 F.ns fun oL es ep hL _ => ?_
 refine ⟨fun q => ?_, ?_⟩
 ·subst q; rw [hL] at hr; cases hr
 ·cases e : g.get? r with
  | none => rfl
  | some o => rw [F.keep _ _ e] at hr; cases hr
end
end
-- DictK
section
open PySem
set_option linter.unusedSectionVars false
inductive Ents {K : Type} (hash : K -> Int) (is : K -> Value -> Prop) : List DictEntry -> List (K × Value) -> Prop
 | nil : Ents hash is [] []
 | cons {e : DictEntry} {es : List DictEntry} {k : K} {l : List (K × Value)} : e.hash = hash k -> is k e.key -> Ents hash is es l -> Ents hash is (e :: es) ((k, e.val) :: l)
section
variable {K : Type} {hash : K -> Int} {is is' : K -> Value -> Prop}
theorem Ents.length {es : List DictEntry} {l : List (K × Value)} (h : Ents hash is es l) : es.length = l.length := by
 induction h with
 | nil => rfl
 | cons _ _ _ ih => exact congrArg Nat.succ ih
theorem Ents.mono (hi : ∀ k v, is k v -> is' k v) {es : List DictEntry} {l : List (K × Value)} (h : Ents hash is es l) : Ents hash is' es l := by
 induction h with
 | nil => exact .nil
 | cons a b _ ih => exact .cons a (hi _ _ b) ih
theorem Ents.get {es : List DictEntry} {l : List (K × Value)} (h : Ents hash is es l) : ∀ i : Nat, (es[i]? = none /\ l[i]? = none) ∨ ∃ e k, es[i]? = some e /\ l[i]? = some (k, e.val) /\ e.hash = hash k /\ is k e.key := by
 induction h with
 | nil => exact fun i => .inl ⟨rfl, rfl⟩
 | cons a b _ ih =>
  intro i
  cases i with
  | zero => exact .inr ⟨_, _, rfl, rfl, a, b⟩
  | succ i => exact ih i
theorem Ents.mem {es : List DictEntry} {l : List (K × Value)} (h : Ents hash is es l) : ∀ e ∈ es, ∃ k, e.hash = hash k /\ is k e.key /\ (k, e.val) ∈ l := by
 induction h with
 | nil => exact fun _ h => nomatch h
 | cons a b _ ih =>
  intro x hx
  cases hx with
  | head => exact ⟨_, a, b, .head _⟩
  | tail _ hx =>
   refine x13 (ih x hx) fun k' h1 h2 h3 => ?_
   exact ⟨k', h1, h2, .tail _ h3⟩
theorem Ents.append {es es' : List DictEntry} {l l' : List (K × Value)} (h : Ents hash is es l) (h' : Ents hash is es' l') : Ents hash is (es ++ es') (l ++ l') := by
 induction h with
 | nil => exact h'
 | cons a b _ ih => exact .cons a b ih
variable [DecidableEq K]
noncomputable def putV (k : K) (v : Value) (x : K × Value) : K × Value := if x.1 = k then (k, v) else x
noncomputable def setV (l : List (K × Value)) (k : K) (v : Value) : List (K × Value) := if k ∈ l.map (·.1) then l.map (putV k v) else l ++ [(k, v)]
theorem putV_keys (l : List (K × Value)) (k : K) (v : Value) : (l.map (putV k v)).map (·.1) = l.map (·.1) := by
 induction l with
 | nil => rfl
 | cons x l ih =>
  rw [List.map_cons, List.map_cons, ih, List.map_cons]
  unfold putV
  split
  ·rename_i h; rw [h]
  ·rfl
theorem putV_not (l : List (K × Value)) (k : K) (v : Value) (h : k ∉ l.map (·.1)) : l.map (putV k v) = l := by
 induction l with
 | nil => rfl
 | cons x l ih =>
  rw [List.map_cons, List.mem_cons, not_or] at h
  rw [List.map_cons, ih h.2, putV, if_neg fun e => h.1 e.symm]
theorem setV_nodup {l : List (K × Value)} {k : K} {v : Value} (hn : (l.map (·.1)).Nodup) : ((setV l k v).map (·.1)).Nodup := by
 unfold setV
 split
 ·rw [putV_keys]; exact hn
 ·rename_i h
  rw [List.map_append, List.nodup_append]
  refine ⟨hn, by simp, ?_⟩
  intro x hx y hy
  simp at hy
  subst hy
  exact fun e => h (e ▸ hx)
theorem mem_setV {l : List (K × Value)} {k : K} {v : Value} {x : K × Value} : x ∈ setV l k v ↔ x = (k, v) ∨ (x.1 ≠ k /\ x ∈ l) := by
 unfold setV
 split
 ·rename_i h
  constructor
  ·intro hx
   refine x12 (List.mem_map.mp hx) fun y hy q91 => ?_; subst q91
   unfold putV
   split
   ·exact .inl rfl
   ·rename_i hne; exact .inr ⟨hne, hy⟩
  ·rintro (rfl | ⟨hne, hx⟩)
   ·refine x12 (List.mem_map.mp h) fun y hy q92 => ?_; subst q92
    exact List.mem_map.mpr ⟨y, hy, by simp [putV]⟩
   ·exact List.mem_map.mpr ⟨x, hx, by simp [putV, hne]⟩
 ·rename_i h
  rw [List.mem_append, List.mem_singleton]
  constructor
  ·rintro (hx | rfl)
   ·exact .inr ⟨fun e => h (e ▸ List.mem_map_of_mem hx), hx⟩
   ·exact .inl rfl
  ·rintro (rfl | ⟨_, hx⟩)
   ·exact .inr rfl
   ·exact .inl hx
theorem mem_unique {l : List (K × Value)} (hn : (l.map (·.1)).Nodup) {k : K} {v v' : Value} (h : (k, v) ∈ l) (h' : (k, v') ∈ l) : v = v' := by
 induction l with
 | nil => simp at h
 | cons x l ih =>
  rw [List.map_cons, List.nodup_cons] at hn
  rcases List.mem_cons.mp h with e | g <;> rcases List.mem_cons.mp h' with e' | g'
  ·rw [← e] at e'; injection e' with _ e'; exact e'.symm
  ·exact (hn.1 (by rw [← e]; exact List.mem_map_of_mem (f := (·.1)) g')).elim
  ·exact (hn.1 (by rw [← e']; exact List.mem_map_of_mem (f := (·.1)) g)).elim
  ·exact ih hn.2 g g'
theorem Ents.modify {k : K} {v vz0 : Value} {es : List DictEntry} {l : List (K × Value)} (h : Ents hash is es l) (hn : (l.map (·.1)).Nodup) {i : Nat} (hi : l[i]? = some (k, vz0)) : Ents hash is (es.modify i fun e => { e with val := v }) (l.map (putV k v)) := by
 induction h generalizing i with
 | nil => cases hi
 | @cons e es k' l a b h ih =>
  have hn := List.nodup_cons.mp hn
  cases i with
  | zero =>
   have hk : k' = k := congrArg (fun x : Option (K × Value) => match x with | some y => y.1 | none => k) hi
   rw [List.map_cons, putV_not _ _ _ (hk ▸ hn.1), putV, if_pos hk]
   exact .cons (e := { e with val := v }) (hk ▸ a) (hk ▸ b) h
  | succ i =>
   have hne : ¬ k' = k := fun e => hn.1 (e ▸ List.mem_map_of_mem (f := (·.1)) (List.mem_of_getElem? (show l[i]? = _ from hi)))
   rw [List.map_cons, putV, if_neg hne]
   exact .cons a b (ih hn.2 hi)
end
noncomputable abbrev dictO (es : Array DictEntry) (ep : Nat) : Obj := { cls := .type "dict", dict := none, data := .dict es ep, slots := #[] }
structure DKind (prog : Program) (w : World) (K : Type) [DecidableEq K] where
 hash : K -> Int
 is : Heap -> K -> Value -> Prop
 keep : ∀ {h h' : Heap} {k : K} {v : Value}, is h k v -> TupKeep h h' -> is h' k v
 pyHash : ∀ {A : Around} {E : Value -> Shared -> Prop} {s : Shared} {k : K} {v : Value} {Q : Int -> Shared -> Prop}, A.units < cLine -> is s.heap k v -> (∀ tk, Q (hash k) { s with toks := tk }) -> wpAny (model prog w) A (PySem.pyHash v) Q E s
 find : ∀ {A : Around} {E : Value -> Shared -> Prop} {s : Shared} {d : Addr} {o : Obj} {es : Array DictEntry} {ep : Nat} {l : List (K × Value)} {k : K} {x : Value} {Q : Option Nat -> Shared -> Prop},
  A.units < cLine -> is s.heap k x -> s.heap.get? d = some o -> o.data = .dict es ep -> Ents hash (is s.heap) es.toList l -> (l.map (·.1)).Nodup ->
  (k ∉ l.map (·.1) -> Q none s) -> (∀ i v, l[i]? = some (k, v) -> Q (some i) s) -> wpAny (model prog w) A (dictFind d x (hash k)) Q E s
 missed : ∀ {A : Around} {E : Value -> Shared -> Prop} {s : Shared} {d : Addr} {k : K} {x : Value} {Q : Option Value -> Shared -> Prop}, is s.heap k x -> d ≠ sysModules -> Q none s -> wpAny (model prog w) A (Builtin.Dict.missed d x) Q E s
 pending : ∀ {A : Around} {E : Value -> Shared -> Prop} {s : Shared} {d : Addr} {k : K} {x : Value} {Q : Option Str -> Shared -> Prop}, is s.heap k x -> d ≠ sysModules -> Q none s -> wpAny (model prog w) A (Builtin.Dict.pendingKey? d x) Q E s
section
variable {prog : Program} {w : World} {K : Type} [DecidableEq K]
theorem keysOf_ents {knd : KeyKind prog w K} {es : Array DictEntry} {l : List (K × Value)} (h : Ents knd.hash (fun k v => knd.is k v = true) es.toList l) : KeysOf knd es := fun e he => by
 refine x13 (h.mem e (Array.mem_toList_iff.mpr he)) fun k h1 h2 _ => ?_
 exact ⟨k, h2, h1⟩
theorem find_value {knd : KeyKind prog w K} {A : Around} {E : Value -> Shared -> Prop} {s : Shared} {d : Addr} {o : Obj} {es : Array DictEntry} {ep : Nat} {l : List (K × Value)} {k : K} {x : Value} {Q : Option Nat -> Shared -> Prop}
  (hx : knd.is k x = true) (ho : s.heap.get? d = some o) (hd : o.data = .dict es ep) (h : Ents knd.hash (fun k v => knd.is k v = true) es.toList l) (hnone : k ∉ l.map (·.1) -> Q none s) (hsome : ∀ i v, l[i]? = some (k, v) -> Q (some i) s) :
  wpAny (model prog w) A (dictFind d x (knd.hash k)) Q E s := by
 refine wpAny_dictFind_of hx ho hd (keysOf_ents h) ?_
 cases hf : es.findIdx? fun e => knd.is k e.key with
 | none =>
  refine hnone fun hm => ?_
  refine x12 (List.mem_map.mp hm) fun y hy hk => ?_
  refine x11 (List.mem_iff_getElem?.mp hy) fun j hj => ?_
  rcases h.get j with ⟨_, q⟩ | ⟨e, k', q1, q2, _, q3⟩
  ·rw [hj] at q; cases q
  ·rw [hj] at q2
   have := Array.findIdx?_eq_none_iff.mp hf e (Array.mem_toList_iff.mp (List.mem_of_getElem? q1))
   injection q2 with q2
   rw [q2] at hk
   simp only at hk
   rw [← hk, q3] at this; cases this
 | some i =>
  refine x12 (Array.findIdx?_eq_some_iff_getElem.mp hf) fun hlt hi _ => ?_
  rcases h.get i with ⟨q, _⟩ | ⟨e, k', q1, q2, _, q3⟩
  ·rw [Array.getElem?_toList, Array.getElem?_eq_getElem hlt] at q; cases q
  ·rw [Array.getElem?_toList, Array.getElem?_eq_getElem hlt] at q1
   injection q1 with q1
   rw [q1] at hi
   rw [knd.inj _ _ _ q3 hi] at q2
   exact hsome i _ q2
end
noncomputable def dInt (prog : Program) (w : World) : DKind prog w Int where
 hash := hashInt
 is := fun _ n v => ∃ t, v = .int n t
 keep := fun x _ => x
 pyHash := fun _ x h => by refine x11 x fun t q93 => ?_; subst q93; exact wpAny_pyHash_int (h _)
 find := fun {A E s d o es ep l k x Q} _ hx ho hd h _ h1 h2 => by
  obtain ⟨t, rfl⟩ := hx
  exact find_value (knd := intKind prog w) (by simp [intKind, Value.isInt]) ho hd (h.mono fun k v hv => by obtain ⟨t, rfl⟩ := hv; simp [intKind, Value.isInt]) h1 h2
 missed := fun x hd h => by refine x11 x fun t q93 => ?_; subst q93; exact wpAny_missed_int h
 pending := fun x hd h => by refine x11 x fun t q94 => ?_; subst q94; exact wpAny_pendingKey_int h
noncomputable def dStr (prog : Program) (w : World) : DKind prog w Str where
 hash := hashStr w
 is := fun _ n v => ∃ t, v = .str n t
 keep := fun x _ => x
 pyHash := fun _ x h => by refine x11 x fun t q95 => ?_; subst q95; exact wpAny_pyHash_str (h _)
 find := fun {A E s d o es ep l k x Q} _ hx ho hd h _ h1 h2 => by
  obtain ⟨t, rfl⟩ := hx
  exact find_value (knd := strKind prog w) (by simp [strKind, Value.isStrOf]) ho hd (h.mono fun k v hv => by obtain ⟨t, rfl⟩ := hv; simp [strKind, Value.isStrOf]) h1 h2
 missed := fun x hd h => by refine x11 x fun t q98 => ?_; subst q98; exact wpAny_missed_other (by simpa using hd) h
 pending := fun x hd h => by refine x11 x fun t q912 => ?_; subst q912; exact wpAny_pendingKey_other (by simpa using hd) h
section
variable {prog : Program} {w : World}
theorem tup_entries {h : Heap} : ∀ {es : List DictEntry} {l : List (List Int × Value)}, Ents thash (tupIs h) es l -> ∃ xs : List (List Int × Addr × Value), es = xs.map (entryOfKey (tupleKind (intKind prog w))) /\ l = xs.map (fun x => (x.1, x.2.2)) /\ ∀ x ∈ xs, IsTI h x.1 x.2.1
 | _, _, .nil => ⟨[], rfl, rfl, fun _ hx => by simp at hx⟩
 | _, _, .cons (e := ⟨eh, ek, ev⟩) (k := k) a b h => by
  refine x13 (tup_entries h) fun xs e1 e2 e3 => ?_
  refine x12 b fun c hc hb => ?_
  simp only at a hc
  subst a; subst hc
  refine ⟨(k, c, ev) :: xs, ?_, ?_, ?_⟩
  ·rw [List.map_cons, ← e1]; rfl
  ·rw [List.map_cons, ← e2]
  ·intro x hx
   rcases List.mem_cons.mp hx with rfl | hx
   ·exact hb
   ·exact e3 x hx
end
noncomputable def dTup (prog : Program) (w : World) : DKind prog w (List Int) where
 hash := thash
 is := tupIs
 keep := fun x e => x12 (x) fun b hb y => ⟨b, hb, y.tk e⟩
 pyHash := fun hu x h => by refine x12 x fun b q913 y => ?_; subst q913; exact t_hash hu y h
 find := fun {A E s d o es ep l k x Q} hu hx ho hd h hn h1 h2 => by
  refine x12 hx fun b q914 y => ?_; subst q914
  refine x13 (tup_entries (prog := prog) (w := w) h) fun xs e1 e2 e3 => ?_
  have hkeys : l.map (·.1) = xs.map (·.1) := by rw [e2, List.map_map]; rfl
  refine wpAny_dictFind_heap (knd := tupleKind (intKind prog w)) hu (y.key (prog := prog) (w := w)) ho hd e1 (fun x hx => (e3 x hx).key) (hkeys ▸ hn) (fun hno => h1 fun hm => ?_) fun j p hj => h2 j p.2 ?_
  ·rw [hkeys] at hm
   exact not_mem_keys_of_get hno hm
  ·rw [e2, List.getElem?_map, hj]; rfl
 missed := fun x hd h => by refine x12 x fun b q915 _ => ?_; subst q915; exact wpAny_missed_other (by simpa using hd) h
 pending := fun x hd h => by refine x12 x fun b q916 _ => ?_; subst q916; exact wpAny_pendingKey_other (by simpa using hd) h
section
variable {prog : Program} {w : World} {K : Type} [DecidableEq K] {dk : DKind prog w K}
inductive DictAt (dk : DKind prog w K) (h : Heap) (d : Addr) (l : List (K × Value)) : Prop
 | mk : d ≠ sysModules -> ∀ es ep, h.get? d = some (dictO es ep) -> (Ents dk.hash (dk.is h) es.toList l /\ (l.map (·.1)).Nodup) -> DictAt dk h d l
theorem DictAt.keep {h h' : Heap} {d : Addr} {l : List (K × Value)} (x : DictAt dk h d l) (e : ∀ o, h.get? d = some o -> h'.get? d = some o) (tk : TupKeep h h') : DictAt dk h' d l := by
 obtain ⟨hs, es, ep, ho, hE, hn⟩ := x
 exact ⟨hs, es, ep, e _ ho, hE.mono fun k v hv => dk.keep hv tk, hn⟩
theorem DictAt.typeIs {s : Shared} {d : Addr} {l : List (K × Value)} (x : DictAt dk s.heap d l) : s.TypeIs (.ref d) "dict" := by
 obtain ⟨_, es, ep, ho, _⟩ := x
 exact ⟨_, ho, rfl⟩
theorem DictAt.tupKeep {h h' : Heap} {d : Addr} {l : List (K × Value)} (x : DictAt dk h d l) (hs : Heap.SameBut d h h') : TupKeep h h' := by
 obtain ⟨_, es, ep, ho, _⟩ := x
 exact TupKeep.of_same hs ho (by refine (?_ : (Value.type "dict") ≠ Value.type "tuple"); decide)
theorem DictAt.nodup {h : Heap} {d : Addr} {l : List (K × Value)} (x : DictAt dk h d l) : (l.map (·.1)).Nodup := let ⟨_, _, _, _, _, hn⟩ := x; hn
variable {A : Around} {E : Value -> Shared -> Prop} {s : Shared} {d : Addr} {l : List (K × Value)} {k : K} {x : Value}
theorem dictGet_at {Q : Option Value -> Shared -> Prop} (D : DictAt dk s.heap d l) (hu : A.units < cLine) (hx : dk.is s.heap k x) (hnone : k ∉ l.map (·.1) -> ∀ tk, Q none { s with toks := tk }) (hsome : ∀ v tk, (k, v) ∈ l -> Q (some v) { s with toks := tk }) :
  wpAny (model prog w) A (dictGet d x) Q E s := by
 obtain ⟨hs, es, ep, ho, hE, hn⟩ := D
 unfold dictGet
 try with_reducible refine wpAny_holding ?_
 refine wpAny_bind (dk.pyHash hu hx fun tk => wpAny_bind (dk.find (s := { s with toks := tk }) hu hx ho rfl hE hn (fun h => ?_) fun i v hi => ?_))
 ·exact wpAny_pure (hnone h tk)
 ·refine wpAny_bind (wpAny_dictEntries (s := { s with toks := tk }) ho rfl ?_)
  rcases hE.get i with ⟨_, q⟩ | ⟨e, k', q1, q2, _, _⟩
  ·rw [hi] at q; cases q
  ·rw [Array.getElem?_toList] at q1
   rw [hi] at q2
   injection q2 with q2
   injection q2 with _ q2
   refine (q1).symm ▸ ?_
   refine wpAny_pure ?_
   refine (?_ : Q (some e.val) _)
   refine (q2) ▸ ?_
   exact hsome v tk (List.mem_of_getElem? hi)
theorem dictSetHashed_at {v : Value} {Q : Unit -> Shared -> Prop} (D : DictAt dk s.heap d l) (hu : A.units < cLine) (hx : dk.is s.heap k x) (hsz : l.length ≤ sizeLine)
  (hQ : ∀ h', DictAt dk h' d (setV l k v) -> Heap.SameBut d s.heap h' -> Q () { s with heap := h' }) :
  wpAny (model prog w) A (dictSetHashed d x (dk.hash k) v) Q E s := by
 have D' := D
 obtain ⟨hs, es, ep, ho, hE, hn⟩ := D
 have hlen := hE.length
 rw [Array.length_toList] at hlen
 unfold dictSetHashed
 try with_reducible refine wpAny_holding ?_
 refine wpAny_bind (dk.find hu hx ho rfl hE hn (fun h => ?_) fun i vz0 hi => ?_)
 ·refine wpAny_bind (wpAny_rule (wpAny_updateDictKeys (hz := by rw [hlen]; exact hsz) ho rfl ?_))
  have hs' := Heap.SameBut.update s.heap d (Obj.mapDictKeys (·.push ⟨dk.hash k, x, v⟩))
  refine hQ _ ⟨hs, es.push ⟨dk.hash k, x, v⟩, ep + 1, Heap.get?_update_self _ ho rfl, ?_, setV_nodup hn⟩ hs'
  rw [setV, if_neg h, Array.toList_push]
  exact (hE.append (.cons (e := ⟨dk.hash k, x, v⟩) rfl hx .nil)).mono fun k v hv => dk.keep hv (D'.tupKeep hs')
 ·refine wpAny_bind (wpAny_rule (wpAny_bind (wpAny_updateDict ho rfl (wpAny_point ?_))))
  have hs' := Heap.SameBut.update s.heap d (Obj.mapDict (·.modify i fun e => { e with val := v }))
  refine hQ _ ⟨hs, es.modify i (fun e => { e with val := v }), ep, Heap.get?_update_self _ ho rfl, ?_, setV_nodup hn⟩ hs'
  have hm : k ∈ l.map (·.1) := List.mem_map.mpr ⟨_, List.mem_of_getElem? hi, rfl⟩
  rw [setV, if_pos hm, Array.toList_modify]
  exact (hE.modify hn hi).mono fun k v hv => dk.keep hv (D'.tupKeep hs')
theorem dictSet_at {v : Value} {Q : Unit -> Shared -> Prop} (D : DictAt dk s.heap d l) (hu : A.units < cLine) (hx : dk.is s.heap k x) (hsz : l.length ≤ sizeLine)
  (hQ : ∀ h' tk, DictAt dk h' d (setV l k v) -> Heap.SameBut d s.heap h' -> Q () { s with heap := h', toks := tk }) :
  wpAny (model prog w) A (dictSet d x v) Q E s := by
 unfold dictSet
 try with_reducible refine wpAny_holding ?_
 exact wpAny_bind (dk.pyHash hu hx fun tk => dictSetHashed_at (s := { s with toks := tk }) D hu hx hsz fun h' a b => hQ h' tk a b)
theorem in_at {Q : Value -> Shared -> Prop} (D : DictAt dk s.heap d l) (hu : A.units + 1 < cLine) (hx : dk.is s.heap k x) (h : ∀ tk, Q (.bool (decide (k ∈ l.map (·.1)))) { s with toks := tk }) :
  wpAny (model prog w) A (compareOp .In x (.ref d)) Q E s := by
 refine (?_ : wpAny _ _ (do return .bool (← contains (.ref d) x)) Q E s)
 refine wpAny_bind ?_
 unfold contains
 try with_reducible refine wpAny_holding ?_
 refine wpAny_bind (wpAny_specialOf D.typeIs slot_dict_contains.lookup ?_)
 refine (?_ : wpAny _ _ (if (some (Value.builtin "dict.__contains__") == some Value.none) = true then _ else _) _ E s)
 refine wpAny_ite_false (decide_eq_false (by rw [beq_builtin_none]; exact Bool.false_ne_true)) ?_
 refine wpAny_bind (wpAny_callSpecialUnlessNone?_slot (name := Str.ofString "__contains__") D.typeIs slot_dict_contains
  (wpAny_call_entry slot_dict_contains D.typeIs entry_dict_contains ?_ (args_dict_contains _ _)))
 refine (?_ : wpAny _ _ (dictGet d x >>= _) _ _ s)
 refine wpAny_bind (dictGet_at D hu hx (fun hk tk => ?_) fun v tk hv => ?_)
 ·refine (?_ : wpAny _ _ (Builtin.Dict.pendingKey? d x >>= _) _ _ _)
  refine wpAny_bind (dk.pending (s := { s with toks := tk }) hx D.1 (wpAny_pure ⟨_, rfl, wpAny_truthy_bool (wpAny_pure ?_)⟩))
  have := h tk
  rwa [decide_eq_false hk] at this
 ·refine (?_ : wpAny _ _ (ret (.bool true)) _ _ _)
  refine wpAny_pure ⟨_, rfl, wpAny_truthy_bool (wpAny_pure ?_)⟩
  have := h tk
  rwa [decide_eq_true (List.mem_map.mpr ⟨_, hv, rfl⟩)] at this
theorem notIn_at {Q : Value -> Shared -> Prop} (D : DictAt dk s.heap d l) (hu : A.units + 1 < cLine) (hx : dk.is s.heap k x) (h : ∀ tk, Q (.bool (!decide (k ∈ l.map (·.1)))) { s with toks := tk }) :
  wpAny (model prog w) A (compareOp .NotIn x (.ref d)) Q E s := by
 refine (?_ : wpAny _ _ (do return .bool !(← contains (.ref d) x)) Q E s)
 refine wpAny_bind ?_
 unfold contains
 try with_reducible refine wpAny_holding ?_
 refine wpAny_bind (wpAny_specialOf D.typeIs slot_dict_contains.lookup ?_)
 refine (?_ : wpAny _ _ (if (some (Value.builtin "dict.__contains__") == some Value.none) = true then _ else _) _ E s)
 refine wpAny_ite_false (decide_eq_false (by rw [beq_builtin_none]; exact Bool.false_ne_true)) ?_
 refine wpAny_bind (wpAny_callSpecialUnlessNone?_slot (name := Str.ofString "__contains__") D.typeIs slot_dict_contains
  (wpAny_call_entry slot_dict_contains D.typeIs entry_dict_contains ?_ (args_dict_contains _ _)))
 refine (?_ : wpAny _ _ (dictGet d x >>= _) _ _ s)
 refine wpAny_bind (dictGet_at D hu hx (fun hk tk => ?_) fun v tk hv => ?_)
 ·refine (?_ : wpAny _ _ (Builtin.Dict.pendingKey? d x >>= _) _ _ _)
  refine wpAny_bind (dk.pending (s := { s with toks := tk }) hx D.1 (wpAny_pure ⟨_, rfl, wpAny_truthy_bool (wpAny_pure ?_)⟩))
  have := h tk
  rwa [decide_eq_false hk] at this
 ·refine (?_ : wpAny _ _ (ret (.bool true)) _ _ _)
  refine wpAny_pure ⟨_, rfl, wpAny_truthy_bool (wpAny_pure ?_)⟩
  have := h tk
  rwa [decide_eq_true (List.mem_map.mpr ⟨_, hv, rfl⟩)] at this
theorem getItem_at {v : Value} {Q : Value -> Shared -> Prop} (D : DictAt dk s.heap d l) (hu : A.units + 1 < cLine) (hx : dk.is s.heap k x) (hv : (k, v) ∈ l) (h : ∀ tk, Q v { s with toks := tk }) :
  wpAny (model prog w) A (getItem (.ref d) x) Q E s := by
 unfold getItem
 try with_reducible refine wpAny_holding ?_
 refine wpAny_bind (wpAny_sequenceKey D.typeIs (by decide) ?_)
 refine wpAny_bind (wpAny_callSpecial?_slot (name := Str.ofString "__getitem__") D.typeIs slot_dict_getitem
  (wpAny_call_entry slot_dict_getitem D.typeIs entry_dict_getitem ?_ (args_dict_getitem _ _)))
 refine (?_ : wpAny _ _ (dictGet d x >>= _) _ _ s)
 refine wpAny_bind (dictGet_at D hu hx (fun hk tk => absurd (List.mem_map.mpr ⟨_, hv, rfl⟩) hk) fun v' tk hv' => ?_)
 refine (mem_unique D.nodup hv' hv).symm ▸ ?_
 exact wpAny_pure ⟨v, rfl, wpAny_pure (h tk)⟩
theorem setItem_at {v : Value} {Q : Unit -> Shared -> Prop} (D : DictAt dk s.heap d l) (hu : A.units + 1 < cLine) (hx : dk.is s.heap k x) (hsz : l.length ≤ sizeLine)
  (hQ : ∀ h' tk, DictAt dk h' d (setV l k v) -> Heap.SameBut d s.heap h' -> Q () { s with heap := h', toks := tk }) :
  wpAny (model prog w) A (setItem (.ref d) x v) Q E s := by
 unfold setItem
 try with_reducible refine wpAny_holding ?_
 refine wpAny_bind (wpAny_sequenceKey D.typeIs (by decide) ?_)
 refine wpAny_bind (wpAny_callSpecial?_slot (name := Str.ofString "__setitem__") D.typeIs slot_dict_setitem
  (wpAny_call_entry slot_dict_setitem D.typeIs entry_dict_setitem ?_ (args_dict_setitem _ _ _)))
 refine (?_ : wpAny _ _ (Builtin.Dict.notOrdered "__setitem__" ⟨[.ref d, x, v], []⟩ >>= _) _ _ s)
 refine wpAny_bind (wpAny_notOrdered_dict D.typeIs ?_)
 refine (?_ : wpAny _ _ (dictSet d x v >>= _) _ _ s)
 exact wpAny_bind (dictSet_at D hu hx hsz fun h' tk hm' hs' => wpAny_pure ⟨.none, rfl, wpAny_pure (hQ h' tk hm' hs')⟩)
end
end
-- Loop
section
open PySem PySem.W PyProof.Rows PySem.Calls PySem.Spec
noncomputable abbrev noE : Value -> Shared -> Prop := fun _ _ => False
section
variable {prog : Program} {w : World} {A : Around} {s : Shared} {env : Env} {g : Heap} {Q : Flow -> Shared -> Prop}
noncomputable def NextMy (g : Heap) (L : Addr) (fp : List Addr) (own : List (Addr × Obj)) (ge : Array GenState) (os : OsState) (J : (Str -> Option Value) -> List (Addr × Obj) -> Heap -> Prop) (G9 : Shared -> Prop) : Prop :=
 ∀ (h : Heap) (tk : Nat) (dr : Drawn) (m : Str -> Option Value) (news : List (Addr × Obj)), Fr g L h m -> News g L h (news ++ own) -> (∀ p ∈ news, p.1 ∉ fp) -> J m news h -> G9 { heap := h, gens := ge, drawn := dr, toks := tk, os := os }
noncomputable def InvMy (g : Heap) (L : Addr) (fp : List Addr) (ge : Array GenState) (os : OsState) (n : Nat) (St : Nat -> Heap -> Prop) (J : Nat -> (Str -> Option Value) -> List (Addr × Obj) -> Heap -> Prop) (G9 : Nat -> Shared -> Prop) : Prop :=
 ∀ (h : Heap) (tk : Nat) (dr : Drawn) (m : Str -> Option Value) (news : List (Addr × Obj)) (i : Nat), St i h -> Fr g L h m -> News g L h news -> (∀ p ∈ news, p.1 ∉ fp) -> J i m news h -> i ≤ n -> G9 (n + 1 - i) { heap := h, gens := ge, drawn := dr, toks := tk, os := os }
noncomputable def StepMy (g : Heap) (L : Addr) (fp : List Addr) (own : List (Addr × Obj)) (sz2 : Shared) (J : (Str -> Option Value) -> List (Addr × Obj) -> Heap -> Prop) (Q : Flow -> Shared -> Prop) (f : Flow) (s' : Shared) : Prop :=
 match f with
 | .ret v => Q (.ret v) s'
 | .brk => Q .next s'
 | _ => Chu (NextMy g L fp own sz2.gens sz2.os J) s'
theorem stepMy_hide {α : Type} {c : Sem α} {body : List Stmt} {L : Addr} {fp : List Addr} {own : List (Addr × Obj)} {sz2 st : Shared} {J : (Str -> Option Value) -> List (Addr × Obj) -> Heap -> Prop}
  (h : ∀ G : Flow -> Shared -> Prop, (∀ h tk dr m news, Fr g L h m -> News g L h (news ++ own) -> (∀ p ∈ news, p.1 ∉ fp) -> J m news h -> G .next { sz2 with heap := h, toks := tk, drawn := dr }) -> wpAny (model prog w) A c (fun _ sz3 => wpAny (model prog w) A (execs body env) G noE sz3) noE st) :
  wpAny (model prog w) A c (fun _ sz3 => wpAny (model prog w) A (execs body env) (StepMy g L fp own sz2 J Q) noE sz3) noE st := h _ fun h tk dr m news F N na j _ k9 => k9 h tk dr m news F N na j
noncomputable def LoopMy (prog : Program) (w : World) (A : Around) (g : Heap) (env : Env) (target : Expr) (body : List Stmt) (Q : Flow -> Shared -> Prop) (G9 : Value -> Shared -> Prop) : Prop := ∀ {sz2 : Shared} (I : Addr) (fp : List Addr) (n : Nat) (P : Nat -> Value -> Prop) (St : Nat -> Heap -> Prop) (m : Str -> Option Value) (news : List (Addr × Obj)) (J : Nat -> (Str -> Option Value) -> List (Addr × Obj) -> Heap -> Prop) (W : Walks prog w A I fp [I] n P St) (hLf : env.locals ∉ fp) (hgI : g.get? I = none) (hcI : ∀ i h, St i h -> ∃ o, h.get? I = some o /\ o.cls ≠ .type "tuple") (hnf : ∀ p ∈ news, p.1 ∉ fp) (hst : St 0 sz2.heap) (F : Fr g env.locals sz2.heap m) (N : News g env.locals sz2.heap news) (h0 : J 0 m news sz2.heap) (stable : ∀ i m news h h', J i m news h -> (∀ p ∈ news, p.1 ∉ fp) -> (∀ b o, b ≠ I -> h.get? b = some o -> h'.get? b = some o) -> TupKeep h h' -> J i m news h') (step : ∀ i v mz1 news1 hz1 tk dr own, i < n -> P i v -> J i mz1 news1 hz1 -> (∀ p ∈ news1, p.1 ∉ fp) -> (∀ p ∈ own, p.1 ∈ fp) -> Fr g env.locals hz1 mz1 -> News g env.locals hz1 (news1 ++ own) -> (∃ o, (I, o) ∈ own) -> wpAny (model prog w) A (assign target env v) (fun _ sz3 => wpAny (model prog w) A (execs body env) (StepMy g env.locals fp own sz2 (J (i + 1)) Q) noE sz3) noE { sz2 with heap := hz1, toks := tk, drawn := dr }) (hQ : ∀ mz1 news1 hz1 tk dr, J n mz1 news1 hz1 -> Fr g env.locals hz1 mz1 -> News g env.locals hz1 news1 -> Q .next { sz2 with heap := hz1, toks := tk, drawn := dr }), G9 (.ref I) sz2
theorem walk_left {I L : Addr} {fp : List Addr} {m : Str -> Option Value} {news : List (Addr × Obj)} {h hz1 : Heap} (hLI : L ≠ I) (hgI : g.get? I = none) (hI : I ∈ fp) (F : Fr g L h m) (N : News g L h news) (na : ∀ p ∈ news, p.1 ∉ fp) (hk : OffKeep [I] h hz1) : Fr g L hz1 m /\ News g L hz1 news :=
 ⟨fr_off F (all1 ⟨Ne.symm hLI, hgI⟩) hk, news_off N (fun q hq hd => na q hq (by rw [List.mem_singleton.mp hd]; exact hI)) hk⟩
theorem walk_own {L : Addr} {fp : List Addr} {m mz2 : Str -> Option Value} {news : List (Addr × Obj)} {h hz1 : Heap} (F : Fr g L h m) (F1 : Fr g L hz1 mz2) (N1 : News g L hz1 (news ++ ownOf g fp h)) : ∀ b ∈ fp, ∀ o, h.get? b = some o -> hz1.get? b = some o := fun b hb o e => by
 cases hn : g.get? b with
 | some o₀ =>
  have e2 := F.keep b o₀ hn
  rw [e] at e2
  rw [e2]
  exact F1.keep b o₀ hn
 | none => exact (N1 _ (List.mem_append_right _ (mem_ownOf hb hn e))).1
theorem walk_dec {n i : Nat} (h : i < n) : n + 1 - (i + 1) < n + 1 - i := Nat.sub_lt_sub_left (Nat.lt_succ_of_lt h) (Nat.lt_succ_self i)
theorem For_my {target iter : Expr} {body : List Stmt} {pos : Pos} (g : Heap)
  (h : wpAny (model prog w) A (eval iter env) (fun xv sz1 => wpAny (model prog w) A (pyIter xv) (fun it sz2 => Chu2 (LoopMy prog w A g env target body Q) it sz2) noE sz1) noE s)
  (hs : ∀ x, foldedSetIterable iter env x = pure x) (ht : ∀ (it v : Value), letOwnedTupleGo target it v = pure ()) :
  wpAny (model prog w) A (exec (.For target iter body [] pos) env) Q noE s := by
 refine wpAny_For (wpAny_mono h (fun xv sz1 hz1 => wpAny_mono hz1 (fun it sz2 hzz2 => ?_) fun _ _ e => e.elim) fun _ _ e => e.elim) hs
 refine Chu2.out hzz2 ?_
 intro sz2 I fp n P St m news J W hLf hgI hcI hnf hst F N h0 stable step hQ
 clear hzz2
 have hIfp : I ∈ fp := W.sub _ (List.mem_singleton.mpr rfl)
 have hLI : env.locals ≠ I := fun q => hLf (q ▸ hIfp)
 refine codeAny_forLoop (Chu2 (InvMy g env.locals fp sz2.gens sz2.os n St J)) ?_ (n + 1) (fun _ k9 => k9 sz2.heap sz2.toks sz2.drawn m news 0 hst F N hnf h0 (Nat.zero_le _)) (ht _)
 intro k s' hz3
 refine Chu2.out hz3 ?_
 intro h' tk dr m' news' i hst' F' N' hnf' hJ hi
 clear hz3
 have next : ∀ hz1 : Heap, OffKeep [I] h' hz1 -> J i m' news' hz1 := fun hz1 hkz1 =>
  stable i m' news' h' hz1 hJ hnf' (fun b o hb e => hkz1 b o (fun q => hb (List.mem_singleton.mp q)) e) fun b o e hc => hkz1 b o (fun q => by
   refine x12 (hcI i h' hst') fun o' ho' hne => ?_
   rw [List.mem_singleton.mp q, ho'] at e; cases e
   exact hne hc.1) e
 by_cases hlt : i < n
 ·refine W.item i _ _ _ hlt hst' fun v hz1 tkz1 hP hstz1 hkz1 => ?_
  have FN := walk_left hLI hgI hIfp F' N' hnf' hkz1
  refine wpAny_mono (step i v m' news' hz1 tkz1 dr (ownOf g fp hz1) hlt hP (next hz1 hkz1) hnf' ownOf_sub FN.1 (News.append FN.2 (news_ownOf hLf)) (x12 (hcI _ _ hstz1) fun o ho _ => ⟨o, mem_ownOf hIfp hgI ho⟩)) (fun _ sz3 hz3 => wpAny_mono hz3 (fun f sz4 hz4 => ?_) fun _ _ e => e.elim) fun _ _ e => e.elim
  have fin : Chu (NextMy g env.locals fp (ownOf g fp hz1) sz2.gens sz2.os (J (i + 1))) sz4 -> ∃ m, m < n + 1 - i /\ Chu2 (InvMy g env.locals fp sz2.gens sz2.os n St J) m sz4 := by
   intro hz5
   refine Chu.out hz5 ?_
   intro h3' tkz3 drz3 mz2 news2 Fz3 Nz3 haz3 hJ3
   exact ⟨n + 1 - (i + 1), walk_dec hlt, fun _ k9 => k9 h3' tkz3 drz3 mz2 news2 (i + 1) (W.frame _ _ _ hstz1 (walk_own FN.1 Fz3 Nz3)) Fz3 (fun p hp => Nz3 p (List.mem_append_left _ hp)) haz3 hJ3 hlt⟩
  cases f with
  | ret v => exact hz4
  | brk => exact hz4
  | cont => exact fin hz4
  | next => exact fin hz4
 ·obtain rfl : i = n := Nat.le_antisymm hi (Nat.le_of_not_lt hlt)
  refine W.done _ _ _ hst' fun hz1 tkz1 hkz1 => wpAny_execs_nil ?_
  have FN := walk_left hLI hgI hIfp F' N' hnf' hkz1
  exact hQ m' news' hz1 tkz1 dr (next hz1 hkz1) FN.1 FN.2
noncomputable def NextW (g : Heap) (L : Addr) (ge : Array GenState) (os : OsState) (J : Nat -> (Str -> Option Value) -> List (Addr × Obj) -> Heap -> Prop) (C : Nat -> Prop) (k : Nat) (G9 : Shared -> Prop) : Prop :=
 ∀ (h : Heap) (tk : Nat) (dr : Drawn) (m : Str -> Option Value) (news : List (Addr × Obj)), Fr g L h m -> News g L h news -> C k -> J k m news h -> G9 { heap := h, gens := ge, drawn := dr, toks := tk, os := os }
noncomputable def WhileMy (g : Heap) (L : Addr) (s : Shared) (J : Nat -> (Str -> Option Value) -> List (Addr × Obj) -> Heap -> Prop) (n : Nat) (Q : Flow -> Shared -> Prop) (f : Flow) (s' : Shared) : Prop :=
 match f with
 | .ret v => Q (.ret v) s'
 | .brk => Q .next s'
 | _ => ∃ k, Chu (NextW g L s.gens s.os J (· < n) k) s'
theorem whileMy_hide {c : Sem Bool} {body : List Stmt} {L : Addr} {n : Nat} {st : Shared} {J : Nat -> (Str -> Option Value) -> List (Addr × Obj) -> Heap -> Prop} {K : Shared -> Prop}
  (h : ∀ G : Flow -> Shared -> Prop, (∀ h tk dr m news k, Fr g L h m -> News g L h news -> k < n -> J k m news h -> G .next { s with heap := h, toks := tk, drawn := dr }) -> wpAny (model prog w) A c (fun b sz2 => if b = true then wpAny (model prog w) A (execs body env) G noE sz2 else K sz2) noE st) :
  wpAny (model prog w) A c (fun b sz2 => if b = true then wpAny (model prog w) A (execs body env) (WhileMy g L s J n Q) noE sz2 else K sz2) noE st := h _ fun h tk dr m news k F N a j => ⟨k, fun _ k9 => k9 h tk dr m news F N a j⟩
theorem While_my {L : Addr} {test : Expr} {body : List Stmt} {pos : Pos} {m : Str -> Option Value} {news : List (Addr × Obj)} {nz0 : Nat} (J : Nat -> (Str -> Option Value) -> List (Addr × Obj) -> Heap -> Prop)
  (F : Fr g L s.heap m) (N : News g L s.heap news) (hJ : J nz0 m news s.heap)
  (turn : ∀ n mz1 news1 hz1 tkz1 dr1, Fr g L hz1 mz1 -> News g L hz1 news1 -> J n mz1 news1 hz1 ->
   wpAny (model prog w) A (isTrue test env (eval test env)) (fun b sz2 =>
    if b = true then wpAny (model prog w) A (execs body env) (WhileMy g L s J n Q) noE sz2 else Q .next sz2) noE { s with heap := hz1, toks := tkz1, drawn := dr1 }) :
  wpAny (model prog w) A (exec (.While test body [] pos) env) Q noE s := by
 refine wpAny_While (codeAny_whileLoop (fun k s' => Chu (NextW g L s.gens s.os J (fun _ => True) k) s') ?_ nz0 (fun _ k9 => k9 s.heap s.toks s.drawn m news F N trivial hJ))
 intro n s' hz3
 refine Chu.out hz3 ?_
 intro hz1 tkz1 dr1 mz1 news1 F1 N1 _ J1
 clear hz3
 refine wpAny_mono (turn n mz1 news1 hz1 tkz1 dr1 F1 N1 J1) (fun b sz2 hzz2 => ?_) fun _ _ e => e.elim
 cases b with
 | false => exact wpAny_execs_nil hzz2
 | true =>
  refine wpAny_mono hzz2 (fun f sz3 hz3 => ?_) fun _ _ e => e.elim
  have fin : (∃ k, Chu (NextW g L s.gens s.os J (· < n) k) sz3) -> ∃ k, k < n /\ Chu (NextW g L s.gens s.os J (fun _ => True) k) sz3 := by
   intro ⟨k, hz4⟩
   refine Chu.out hz4 ?_
   intro h' tk dr mz2 news2 Fz2 Nz2 hn J2
   exact ⟨k, hn, fun _ k9 => k9 h' tk dr mz2 news2 Fz2 Nz2 trivial J2⟩
  cases f with
  | next => exact fin hz3
  | cont => exact fin hz3
  | brk => exact hz3
  | ret v => exact hz3
end
theorem fr_put {g h : Heap} {L : Addr} {m : Str -> Option Value} (a : Str) {v : Value} (F : Fr g L h m) (e : m a = some v) : Fr g L h (fun y => if y = a then some v else m y) := by
 have : (fun y => if y = a then some v else m y) = m := funext fun y => by
  split
  ·next q => rw [q, e]
  ·rfl
 rw [this]; exact F
theorem news_hit {g h h' : Heap} {L a : Addr} {m : Str -> Option Value} {o o' : Obj} {pre post : List (Addr × Obj)} (F : Fr g L h m) (N : News g L h (pre ++ (a, o) :: post)) (h1 : ∀ p ∈ pre, p.1 ≠ a) (h2 : ∀ p ∈ post, p.1 ≠ a)
  (hs : Heap.SameBut a h h') (ho : h'.get? a = some o') : Fr g L h' m /\ News g L h' (pre ++ (a, o') :: post) := by
 have D := N (a, o) (List.mem_append_right _ (List.mem_cons_self ..))
 have hk : ∀ {b o}, b ≠ a -> h.get? b = some o -> h'.get? b = some o := fun hb e => (hs.2 _ hb).trans e
 refine ⟨fr_off F (all1 D.2) fun b o hb e => hk (fun q => hb (List.mem_singleton.mpr q)) e, fun p hp => ?_⟩
 rcases List.mem_append.mp hp with q | q
 ·have P := N p (List.mem_append_left _ q); exact ⟨hk (h1 p q) P.1, P.2⟩
 ·rcases List.mem_cons.mp q with e | q
  ·rw [e]; exact ⟨ho, D.2⟩
  ·have P := N p (List.mem_append_right _ (.tail _ q)); exact ⟨hk (h2 p q) P.1, P.2⟩
end
-- Nm
section
open PySem PySem.W PyProof.Rows PySem.Calls
section
variable {prog : Program} {w : World}
noncomputable def KThen (prog : Program) (w : World) (A : Around) (env : Env) (rest : List Stmt) (Q : Flow -> Shared -> Prop) (f : Flow) (s : Shared) : Prop :=
 match f with
 | .next => wpAny (model prog w) A (execs rest env) Q noE s
 | f => Q f s
noncomputable def KIf (prog : Program) (w : World) (A : Around) (env : Env) (body orelse : List Stmt) (Q : Flow -> Shared -> Prop) (b : Bool) (s : Shared) : Prop :=
 if b then wpAny (model prog w) A (execs body env) Q noE s else wpAny (model prog w) A (execs orelse env) Q noE s
noncomputable def KSto (prog : Program) (w : World) (A : Around) (env : Env) (x : Str) (Q : Flow -> Shared -> Prop) (v : Value) (s : Shared) : Prop :=
 wpAny (model prog w) A (storeName env x v) (fun _ => Q .next) noE s
noncomputable def KRet (Q : Flow -> Shared -> Prop) (v : Value) (s : Shared) : Prop := Q (.ret v) s
noncomputable def KDrop (Q : Flow -> Shared -> Prop) (_ : Value) (s : Shared) : Prop := Q .next s
noncomputable def KTru (prog : Program) (w : World) (A : Around) (Q : Bool -> Shared -> Prop) (c : Value) (s : Shared) : Prop := wpAny (model prog w) A (truthy c) Q noE s
noncomputable def KCall (prog : Program) (w : World) (A : Around) (env : Env) (pos : Pos) (args : List Expr) (Q : Value -> Shared -> Prop) (fx : Value × List Value) (s : Shared) : Prop :=
 wpAny (model prog w) A (callWith pos fx.1 fx.2 (backTo pos (starEach args env)) []) Q noE s
noncomputable def KCons (v : Value) (Q : List Value -> Shared -> Prop) (vs : List Value) (s : Shared) : Prop := Q (v :: vs) s
noncomputable def nkL : ScopeKind × Option NameKind × Bool := (.function, some .local, false)
variable {A : Around} {env : Env} {s : Shared} {g : Heap} {m : Str -> Option Value}
section
variable {Q : Flow -> Shared -> Prop} {rest body orelse : List Stmt}
theorem execs_consK {st : Stmt} (h : wpAny (model prog w) A (exec st env) (KThen prog w A env rest Q) noE s) : wpAny (model prog w) A (execs (st :: rest) env) Q noE s :=
 wpAny_execs_cons (wpAny_mono h (fun f s' h => by cases f <;> exact h) fun _ _ e => e)
theorem kThenN (h : wpAny (model prog w) A (execs rest env) Q noE s) : KThen prog w A env rest Q .next s := h
theorem kThenR {v : Value} (h : Q (.ret v) s) : KThen prog w A env rest Q (.ret v) s := h
theorem kThenB (h : Q .brk s) : KThen prog w A env rest Q .brk s := h
theorem kThenC (h : Q .cont s) : KThen prog w A env rest Q .cont s := h
theorem ifK {test : Expr} {pos : Pos} (h : wpAny (model prog w) A (isTrue test env (eval test env)) (KIf prog w A env body orelse Q) noE s) : wpAny (model prog w) A (exec (.If test body orelse pos) env) Q noE s := wpAny_If h
theorem kIfT (h : wpAny (model prog w) A (execs body env) Q noE s) : KIf prog w A env body orelse Q true s := h
theorem kIfF (h : wpAny (model prog w) A (execs orelse env) Q noE s) : KIf prog w A env body orelse Q false s := h
theorem kIf {b : Bool} (h : if b then wpAny (model prog w) A (execs body env) Q noE s else wpAny (model prog w) A (execs orelse env) Q noE s) : KIf prog w A env body orelse Q b s := h
theorem assignK {x : Str} {pos' pos : Pos} {value : Expr} (hs : pure false = swapsWith value (some (.Name x pos')) pos.line env) (h : wpAny (model prog w) A (eval value env) (KSto prog w A env x Q) noE s) : wpAny (model prog w) A (exec (.Assign [.Name x pos'] value pos) env) Q noE s :=
 wpAny_Assign_Name h hs.symm
theorem kSto {x : Str} {v : Value} (h : wpAny (model prog w) A (storeName env x v) (fun _ => Q .next) noE s) : KSto prog w A env x Q v s := h
theorem exprK {e : Expr} {pos : Pos} (hi : (false, pure false) = (interactive env, swapsWith e none pos.line env)) (h : wpAny (model prog w) A (eval e env) (KDrop Q) noE s) : wpAny (model prog w) A (exec (.Expr e pos) env) Q noE s :=
 wpAny_Expr_any h (congrArg Prod.fst hi).symm (congrArg Prod.snd hi).symm
theorem kDrop {v : Value} (h : Q .next s) : KDrop Q v s := h
theorem retK {e : Expr} {pos : Pos} (h : wpAny (model prog w) A (eval e env) (KRet Q) noE s) : wpAny (model prog w) A (exec (.Return (some e) pos) env) Q noE s := wpAny_Return_some h
theorem kRet {v : Value} (h : Q (.ret v) s) : KRet Q v s := h
end
theorem kTru {Q : Bool -> Shared -> Prop} {b : Bool} (h : Q b s) : KTru prog w A Q (.bool b) s := wpAny_truthy_bool h
theorem kTruA {Q : Bool -> Shared -> Prop} {c : Value} (h : wpAny (model prog w) A (truthy c) Q noE s) : KTru prog w A Q c s := h
theorem kCall {pos : Pos} {args : List Expr} {Q : Value -> Shared -> Prop} {f : Value} {xs : List Value} (h : wpAny (model prog w) A (callWith pos f xs (backTo pos (starEach args env)) []) Q noE s) : KCall prog w A env pos args Q (f, xs) s := h
theorem kCons {v : Value} {Q : List Value -> Shared -> Prop} {vs : List Value} (h : Q (v :: vs) s) : KCons v Q vs s := h
theorem nm {x : Str} {pos : Pos} {v : Value} {Q : Value -> Shared -> Prop} (hx : nkL = (env.scope.kind, env.kindOf x, x == ("__debug__" : Str))) (F : Fr g env.locals s.heap m) (hv : some v = m x) (h : Q v s) : wpAny (model prog w) A (eval (.Name x pos) env) Q noE s :=
 wpAny_Name (wpAny_loadName_local (congrArg (·.1) hx).symm (congrArg (·.2.1) hx).symm F.ns hv.symm h) (congrArg (·.2.2) hx).symm
theorem attrN {x a : Str} {xp pos : Pos} {v : Value} {Q : Value -> Shared -> Prop} (hx : nkL = (env.scope.kind, env.kindOf x, x == ("__debug__" : Str))) (F : Fr g env.locals s.heap m) (hv : some v = m x)
  (he : eval (.Attribute (.Name x xp) a pos) env = (do let o ← eval (.Name x xp) env; standAt pos.atName; let r ← holding [o] (getAttr o a true); letTemporaryGo (.Name x xp) o r; pure r))
  (h : wpAny (model prog w) A (getAttr v a true) Q noE s) : wpAny (model prog w) A (eval (.Attribute (.Name x xp) a pos) env) Q noE s :=
 Attribute_Name_ (nm hx F hv h) he
theorem methN {x name : Str} {xp apos pos : Pos} {args : List Expr} {pl : Sem Bool} {v : Value} {Q : Value -> Shared -> Prop} (hx : nkL = (env.scope.kind, env.kindOf x, x == ("__debug__" : Str))) (F : Fr g env.locals s.heap m) (hv : some v = m x)
  (he : eval (.Call (.Attribute (.Name x xp) name apos) args [] pos) env = (do
   let ov ← eval (.Name x xp) env
   standAt apos.atName
   let (f, first) ← holding [ov] (getMethod ov name pl)
   callWith pos f first (backTo pos (starEach args env)) []))
  (h : wpAny (model prog w) A (getMethod v name pl) (KCall prog w A env pos args Q) noE s) : wpAny (model prog w) A (eval (.Call (.Attribute (.Name x xp) name apos) args [] pos) env) Q noE s :=
 MethodCall_ (nm hx F hv (wpAny_mono h (fun _ _ h => h) fun _ _ e => e)) he
theorem argsN {x : Str} {xp pos : Pos} {rest : List Expr} {v : Value} {Q : List Value -> Shared -> Prop} (hx : nkL = (env.scope.kind, env.kindOf x, x == ("__debug__" : Str))) (F : Fr g env.locals s.heap m) (hv : some v = m x)
  (h : wpAny (model prog w) A (spliced (backTo pos (starEach rest env))) (KCons v Q) noE s) : wpAny (model prog w) A (spliced (backTo pos (starEach (.Name x xp :: rest) env))) Q noE s :=
 args_cons (nm hx F hv h)
theorem cmpNN {a b : Str} {pa pb pos : Pos} {op : CmpOp} {va vb : Value} {whole : Sem Value} {Q : Bool -> Shared -> Prop} (hxa : nkL = (env.scope.kind, env.kindOf a, a == ("__debug__" : Str))) (hxb : nkL = (env.scope.kind, env.kindOf b, b == ("__debug__" : Str))) (F : Fr g env.locals s.heap m) (hva : some va = m a) (hvb : some vb = m b)
  (hm : behindInMarks op (.Name b pb) = false) (h : wpAny (model prog w) A (compareOp op va vb) (KTru prog w A Q) noE s) : wpAny (model prog w) A (isTrue (.Compare (.Name a pa) [op] [.Name b pb] pos) env whole) Q noE s :=
 wpAny_isTrue_Compare1 (nm hxa F hva (nm hxb F hvb h)) hm
theorem subNN {a b : Str} {pa pb pos : Pos} {va vb : Value} {Q : Value -> Shared -> Prop} (hxa : nkL = (env.scope.kind, env.kindOf a, a == ("__debug__" : Str))) (hxb : nkL = (env.scope.kind, env.kindOf b, b == ("__debug__" : Str))) (F : Fr g env.locals s.heap m) (hva : some va = m a) (hvb : some vb = m b)
  (h : wpAny (model prog w) A (subscriptTail (.Name a pa) (.Name b pb) va vb) Q noE s) : wpAny (model prog w) A (eval (.Subscript (.Name a pa) (.Name b pb) pos) env) Q noE s :=
 Subscript_ (nm hxa F hva (nm hxb F hvb h))
theorem stoL {x : Str} {v : Value} {news : List (Addr × Obj)} {Q : Flow -> Shared -> Prop} {h : Heap} {ge : Array GenState} {dr : Drawn} {tk : Nat} {os : OsState} (F : Fr g env.locals h m) (N : News g env.locals h news) (hx : (ScopeKind.function, some NameKind.local) = (env.scope.kind, env.kindOf x))
  (hq : ∀ h', Fr g env.locals h' (fun y => if y = x then some v else m y) -> News g env.locals h' news -> Q .next { heap := h', gens := ge, drawn := dr, toks := tk + 1, os := os }) : KSto prog w A env x Q v { heap := h, gens := ge, drawn := dr, toks := tk, os := os } :=
 wpAny_storeName_local (congrArg Prod.snd hx).symm F.ns (fun h' hn hs => hq h' (F.set hn hs) (N.set hs)) (by show (env.scope.kind == .class || (env.scope.kind == .module && env.locals != env.globals)) = false; rw [show env.scope.kind = .function from (congrArg Prod.fst hx).symm]; rfl)
end
end
-- Tac
section
open PySem PySem.W PyProof.Rows PySem.Calls
noncomputable def lit (o : Obj) : Bool := match o.cls with
 | .type _ => true
 | .ref _ => true
 | _ => false
section
variable {M : Model} {A : Around} {E : Value -> Shared -> Prop} {s : Shared} {g : Heap} {L a : Addr} {o : Obj} {news : List (Addr × Obj)}
theorem ck_sub {v i : Expr} {x : Value} {Q : Value -> Shared -> Prop} (_ : News g L s.heap news) (_ : (a, o) ∈ news) (_ : lit o = true) (k : wpAny M A (subscriptTail v i (.ref a) x) Q E s) : wpAny M A (subscriptTail v i (.ref a) x) Q E s := k
theorem ck_cmp {op : CmpOp} {x : Value} {Q : Value -> Shared -> Prop} (_ : News g L s.heap news) (_ : (a, o) ∈ news) (_ : lit o = true) (k : wpAny M A (compareOp op x (.ref a)) Q E s) : wpAny M A (compareOp op x (.ref a)) Q E s := k
theorem ck_get {nm : Str} {pl : Sem Bool} {Q : Value × List Value -> Shared -> Prop} (_ : News g L s.heap news) (_ : (a, o) ∈ news) (_ : lit o = true) (k : wpAny M A (getMethod (.ref a) nm pl) Q E s) : wpAny M A (getMethod (.ref a) nm pl) Q E s := k
theorem ck_tru {Q : Bool -> Shared -> Prop} (_ : News g L s.heap news) (_ : (a, o) ∈ news) (_ : lit o = true) (k : wpAny M A (truthy (.ref a)) Q E s) : wpAny M A (truthy (.ref a)) Q E s := k
end
section
variable {M : Model} {A : Around} {E : Value -> Shared -> Prop} {s : Shared} {env : Env}
theorem gFor {a b c d e} {Q : Flow -> Shared -> Prop} (h : wpAny M A (exec (.For a b c d e) env) Q E s) : wpAny M A (exec (.For a b c d e) env) Q E s := h
theorem gWhile {a b c d} {Q : Flow -> Shared -> Prop} (h : wpAny M A (exec (.While a b c d) env) Q E s) : wpAny M A (exec (.While a b c d) env) Q E s := h
theorem gIf {a b c d l} {Q : Flow -> Shared -> Prop} (h : wpAny M A (execs (.If a b c d :: l) env) Q E s) : wpAny M A (execs (.If a b c d :: l) env) Q E s := h
section
variable {Q : Value -> Shared -> Prop}
theorem gCall {a x} (h : wpAny M A (call (.ref a) x) Q E s) : wpAny M A (call (.ref a) x) Q E s := h
theorem gSet {x} (h : wpAny M A (call (.type "set") x) Q E s) : wpAny M A (call (.type "set") x) Q E s := h
theorem gIter {x} {R} (h : wpAny M A (pyIter x) R E s) : wpAny M A (pyIter x) R E s := h
theorem gSub {a b c d} (h : wpAny M A (subscriptTail a b (.ref c) d) Q E s) : wpAny M A (subscriptTail a b (.ref c) d) Q E s := h
theorem gCmp {a b c} (h : wpAny M A (compareOp a b (.ref c)) Q E s) : wpAny M A (compareOp a b (.ref c)) Q E s := h
theorem gDict {a b c} (h : wpAny M A (eval (.Dict a b c) env) Q E s) : wpAny M A (eval (.Dict a b c) env) Q E s := h
theorem gLen {x} (h : wpAny M A (call (.builtin "len") x) Q E s) : wpAny M A (call (.builtin "len") x) Q E s := h
theorem gComp {a b c d} (h : wpAny M A (eval (.ListComp a b c d) env) Q E s) : wpAny M A (eval (.ListComp a b c d) env) Q E s := h
end
theorem gGet {a b c} {Q : Value × List Value -> Shared -> Prop} (h : wpAny M A (getMethod (.ref a) b c) Q E s) : wpAny M A (getMethod (.ref a) b c) Q E s := h
theorem gTru {a} {Q : Bool -> Shared -> Prop} (h : wpAny M A (truthy (.ref a)) Q E s) : wpAny M A (truthy (.ref a)) Q E s := h
theorem gAsg {x a b c d p} {Q : Flow -> Shared -> Prop} (h : wpAny M A (exec (.Assign x (.ListComp a b c d) p) env) Q E s) : wpAny M A (exec (.Assign x (.ListComp a b c d) p) env) Q E s := h
theorem gNew {a b c} {R} (h : wpAny M A (newObj a b c) R E s) : wpAny M A (newObj a b c) R E s := h
end
end
local macro_rules | `(tactic| law_side) => `(tactic| ((fail_if_success with_reducible first | refine' gFor _ | refine' gWhile _ | refine' gCall _ | refine' gSet _ | refine' gIter _); (first
 | (fail_if_success with_reducible first | refine' gSub _ | refine' gCmp _ | refine' gGet _ | refine' gTru _)
 | (fail_if_success fail_if_success ((with_reducible first | refine' ck_get _ _ _ _ | refine' ck_tru _ _ _ _ | refine' ck_cmp _ _ _ _ | refine' ck_sub _ _ _ _); rotate_left 4; k_asm; k_mem; exact rfl)))))
local macro_rules | `(tactic| kl_room) => `(tactic| (exact rfl; k_asm; exact rfl))
local macro_rules | `(tactic| back_in) => `(tactic| first
 | with_reducible first | refine' kThenN _ | refine' execs_consK _ | refine' ifK _ | refine' kIfT _ | refine' kIfF _ | refine' kIf _ | refine' retK _ | refine' kRet _ | refine' kDrop _ | refine' kTru _ | refine' kTruA _ | refine' kCall _ | refine' kCons _ | refine' kThenR _ | refine' kThenB _ | refine' kThenC _
 | (rename PyProof.Rows.Fr _ _ _ _ => F9; rename PyProof.Rows.News _ _ _ _ => N9; with_reducible refine' stoL F9 N9 _ _; exact rfl; intro _ _ _; try clear F9 N9)
 | (with_reducible refine' stoL _ _ _ _; rotate_left 3; k_asm; k_asm; exact rfl; intro _ _ _)
 | with_reducible refine' kSto _
 | ((with_reducible first | refine' assignK _ _ | refine' exprK _ _); exact rfl)
 | (with_reducible refine' cmpNN _ _ _ _ _ _ _; rotate_left 4; exact rfl; kl_room; exact rfl; exact rfl)
 | (with_reducible refine' subNN _ _ _ _ _ _; rotate_left 4; exact rfl; kl_room; exact rfl)
 | ((with_reducible first | refine' attrN _ _ _ _ _ | refine' methN _ _ _ _ _); rotate_left 3; kl_room; with_unfolding_all exact rfl)
 | ((with_reducible first | refine' argsN _ _ _ _ | refine' nm _ _ _ _); rotate_left 3; kl_room))
local macro_rules | `(tactic| kl_some) => `(tactic| (law_side; first | (k_unfold; try dsimp only) | back_in | (k_end; wrow_close) | walk1 | (dsimp only; walk1) | (leave1; walk_say "STEP leave1"; try dsimp only)))
local macro_rules | `(tactic| o_steps) => `(tactic| ((try dsimp only); repeat' kl_some))
section
open PySem PySem.W PyProof.Rows PySem.Calls
section
variable {prog : Program} {w : World} {K : Type} [DecidableEq K]
theorem SetAt.fr {sk : SKind prog w K} {lim : Nat} {g h : Heap} {a L : Addr} {l : List K} {m : Str -> Option Value} (S : SetAt sk lim g a l) (F : Fr g L h m) : SetAt sk lim h a l :=
 S.keep (fun o e => F.keep _ o e) fun b o e _ => F.keep b o e
theorem SetAt.stay {sk : SKind prog w K} {lim : Nat} {g h : Heap} {a : Addr} {l : List K} (S : SetAt sk lim g a l) (k : ∀ b o, g.get? b = some o -> h.get? b = some o) : SetAt sk lim h a l :=
 S.keep (fun o e => k _ o e) fun b o e _ => k b o e
theorem DictAt.fr {dk : DKind prog w K} {g h : Heap} {a L : Addr} {l : List (K × Value)} {m : Str -> Option Value} (S : DictAt dk g a l) (F : Fr g L h m) : DictAt dk h a l :=
 S.keep (fun o e => F.keep _ o e) fun b o e _ => F.keep b o e
theorem DictAt.stay {dk : DKind prog w K} {g h : Heap} {a : Addr} {l : List (K × Value)} (S : DictAt dk g a l) (k : ∀ b o, g.get? b = some o -> h.get? b = some o) : DictAt dk h a l :=
 S.keep (fun o e => k _ o e) fun b o e _ => k b o e
theorem tk_hide {news : List (Addr × Obj)} {h g : Heap} (Hg : ∀ b o, h.get? b = some o -> b ∉ news.map (·.1) -> g.get? b = some o) (N : ∀ q ∈ news, h.get? q.1 = some q.2) (hc : ∀ q ∈ news, q.2.cls ≠ .type "tuple") : TupKeep h g := fun b o e c =>
 Hg b o e fun q => by
  refine x12 (List.mem_map.mp q) fun p hp q91 => ?_; subst q91
  have := N p hp
  rw [this] at e; cases e
  exact hc p hp c.1
variable {A : Around} {E : Value -> Shared -> Prop} {s : Shared} {d : Addr} {dk : DKind prog w K} {l : List (K × Value)} {k : K} {x : Value}
theorem in_yes {Q : Value -> Shared -> Prop} (hk : k ∈ l.map (·.1)) (D : DictAt dk s.heap d l) (hu : A.units + 1 < cLine) (hx : dk.is s.heap k x) (h : ∀ tk, Q (.bool true) { s with toks := tk }) :
  wpAny (model prog w) A (compareOp .In x (.ref d)) Q E s := in_at D hu hx (by rw [decide_eq_true hk]; exact h)
theorem in_no {Q : Value -> Shared -> Prop} (hk : k ∉ l.map (·.1)) (D : DictAt dk s.heap d l) (hu : A.units + 1 < cLine) (hx : dk.is s.heap k x) (h : ∀ tk, Q (.bool false) { s with toks := tk }) :
  wpAny (model prog w) A (compareOp .In x (.ref d)) Q E s := in_at D hu hx (by rw [decide_eq_false hk]; exact h)
end
section
variable {prog : Program} {w : World} {A : Around} {E : Value -> Shared -> Prop} {s : Shared} {a : Addr} {lim : Nat}
theorem list_of_set {l : List Int} {Q : Value -> Shared -> Prop} (S : SetAt (skInt prog w) lim s.heap a l) (hh : A.handled = none)
  (hQ : ∀ h' tk dr r arr c' ns, IntsAre arr ns -> ns.Perm l -> (∀ b o, s.heap.get? b = some o -> h'.get? b = some o) -> s.heap.get? r = none -> h'.get? r = some (listO arr.toArray c') -> Q (.ref r) { s with heap := h', toks := tk, drawn := dr }) :
  wpAny (model prog w) A (call (.type "list") [.ref a]) Q E s := by
 obtain ⟨o, es, t, ho, b, hK, hn, hok, hled, hpl⟩ := S
 refine call_list_set hh ho b hled fun h' tk dr arr c' hp hk hD => ?_
 refine x12 (ints_perm (hp.map _) (keys_ints hK)) fun ns h1 h2 => ?_
 refine hQ h' tk dr _ (arr.toList.map (·.2)) c' ns h1 h2 hk ?_ (by rw [hD, ← Array.toList_map, Array.toArray_toList])
 cases e : s.heap.get? s.heap.objs.size with
 | none => rfl
 | some o => exact absurd (Heap.lt_size e) (Nat.lt_irrefl _)
inductive SetRow (prog : Program) (w : World) (h : Heap) (E : Int -> Str -> Int -> Prop) (a : Int) (lab : Str) : Value -> Prop
 | mk (sa : Addr) (xs : List Int) (S : SetAt (skInt prog w) 7 h sa xs) (ne : xs ≠ []) (hm : ∀ b, b ∈ xs ↔ E a lab b) : SetRow prog w h E a lab (.ref sa)
inductive TrRow (prog : Program) (w : World) (h : Heap) (E : Int -> Str -> Int -> Prop) (a : Int) : Value -> Prop
 | mk (d : Addr) (li : List (Str × Value)) (D : DictAt (dStr prog w) h d li) (hE : ∃ lab b, E a lab b) (hs : ∀ lab u, (lab, u) ∈ li -> SetRow prog w h E a lab u) (hk : ∀ lab b, E a lab b -> lab ∈ li.map (·.1)) : TrRow prog w h E a (.ref d)
inductive TrRel (prog : Program) (w : World) (h : Heap) (t : Addr) (E : Int -> Str -> Int -> Prop) : Prop
 | mk (l : List (Int × Value)) (D : DictAt (dInt prog w) h t l) (hr : ∀ a v, (a, v) ∈ l -> TrRow prog w h E a v) (hk : ∀ a lab b, E a lab b -> a ∈ l.map (·.1)) : TrRel prog w h t E
theorem TrRel.stay {g h : Heap} {t : Addr} {E : Int -> Str -> Int -> Prop} (S : TrRel prog w g t E) (k : ∀ b o, g.get? b = some o -> h.get? b = some o) : TrRel prog w h t E := by
 obtain ⟨l, D, h1, h2⟩ := S
 refine ⟨l, D.stay k, fun a v hv => ?_, h2⟩
 obtain ⟨d, li, D', h3, h4, h5⟩ := h1 a v hv
 refine ⟨d, li, D'.stay k, h3, fun lab u hu => ?_, h5⟩
 obtain ⟨sa, xs, S', r, r'⟩ := h4 lab u hu
 exact ⟨sa, xs, S'.stay k, r, r'⟩
theorem trGet {h : Heap} {E : Int -> Str -> Int -> Prop} {l : List (Int × Value)} {k : Int} {P : Prop} (hr : ∀ a v, (a, v) ∈ l -> TrRow prog w h E a v) (hk : k ∈ l.map (·.1))
  (f : ∀ d li, (k, .ref d) ∈ l -> DictAt (dStr prog w) h d li -> (∀ lab u, (lab, u) ∈ li -> SetRow prog w h E k lab u) -> (∀ lab b, E k lab b -> lab ∈ li.map (·.1)) -> P) : P :=
 keyVal hk fun v hv => by
  obtain ⟨d, li, D, _, hs, hk⟩ := hr k v hv
  exact f d li hv D hs hk
theorem setGet {h : Heap} {E : Int -> Str -> Int -> Prop} {l : List (Str × Value)} {a : Int} {k : Str} {P : Prop} (hr : ∀ lab u, (lab, u) ∈ l -> SetRow prog w h E a lab u) (hk : k ∈ l.map (·.1))
  (f : ∀ sa xs, (k, .ref sa) ∈ l -> SetAt (skInt prog w) 7 h sa xs -> (∀ b, b ∈ xs ↔ E a k b) -> P) : P :=
 keyVal hk fun v hv => by
  obtain ⟨sa, xs, S, _, hm⟩ := hr k v hv
  exact f sa xs hv S hm
theorem sub_hide {news : List (Addr × Obj)} {hq h g : Heap} (Hg : ∀ b o, h.get? b = some o -> b ∉ news.map (·.1) -> g.get? b = some o) (hqs : ∀ b o, hq.get? b = some o -> h.get? b = some o) (hn : ∀ q ∈ news, hq.get? q.1 = none) : ∀ b o, hq.get? b = some o -> g.get? b = some o := fun b o e =>
 Hg b o (hqs b o e) fun q => by
  refine x12 (List.mem_map.mp q) fun p hp q92 => ?_; subst q92
  rw [hn p hp] at e; cases e
end
end
-- LstOps
section
open PySem PySem.W PyProof.Rows PySem.Calls PySem.Spec
section
variable {prog : Program} {w : World} {A : Around} {E : Value -> Shared -> Prop} {s : Shared} {r : Addr} {c : Nat}
theorem mapSeq_listO (f : Array Value -> Array Value) (arr : Array Value) (c : Nat) : ∃ c', Obj.mapSeq f (listO arr c) = listO (f arr) c' := ⟨_, rfl⟩
theorem upd_listO {h : Heap} {f : Array Value -> Array Value} {arr arr' : Array Value} (ho : h.get? r = some (listO arr c)) (e : f arr = arr') : ∃ c', (h.update r (Obj.mapSeq f)).get? r = some (listO arr' c') := by
 refine x11 (mapSeq_listO f arr c) fun c' q => ?_
 exact ⟨c', (Heap.get?_update_self _ ho rfl).trans (by rw [q, e])⟩
theorem isList_listO {h : Heap} {arr : Array Value} (ho : h.get? r = some (listO arr c)) : h.IsList r arr := ⟨_, ho, rfl, c, rfl⟩
theorem truthy_listO {arr : Array Value} {Q : Bool -> Shared -> Prop} (ho : s.heap.get? r = some (listO arr c)) (hf : arr.size ≤ sizeLine) (h : ∀ tk, Q (!arr.isEmpty) { s with toks := tk }) : wpAny (model prog w) A (truthy (.ref r)) Q E s :=
 wpAny_truthy_list (isList_listO ho) (by rw [sizeLine_eq] at hf; lia) (h _)
theorem pop_listO {l : List Value} {v : Value} {Q : Value -> Shared -> Prop} (ho : s.heap.get? r = some (listO (l ++ [v]).toArray c)) (hf : l.length + 1 ≤ sizeLine)
  (h : ∀ h' c', Heap.SameBut r s.heap h' -> h'.get? r = some (listO l.toArray c') -> Q v { s with heap := h' }) : wpAny (model prog w) A (call (.builtin "list.pop") [.ref r]) Q E s := by
 refine call_meets (self := .ref r) PySem.F.slot_list_pop ⟨_, ho, rfl⟩ PySem.F.entry_list_pop (PySem.F.args_list_pop_1 _) (PySem.MeetsSeq.list_pop_last r (l ++ [v]).toArray c v (by simp) (by simpa using hf)) ⟨ho, ?_⟩
 have e : (l ++ [v]).toArray.eraseIdxIfInBounds ((l ++ [v]).toArray.size - 1) = l.toArray := by
  apply Array.toList_inj.mp
  simp [Array.eraseIdxIfInBounds, List.eraseIdx_append_of_length_le]
 refine x11 (upd_listO (f := fun xs => xs.eraseIdxIfInBounds ((l ++ [v]).toArray.size - 1)) ho e) fun c' q => ?_
 exact h _ c' (Heap.SameBut.update ..) q
theorem append_listO {l : List Value} {v : Value} {Q : Value -> Shared -> Prop} (ho : s.heap.get? r = some (listO l.toArray c)) (hf : l.length ≤ sizeLine)
  (h : ∀ h' c', Heap.SameBut r s.heap h' -> h'.get? r = some (listO (l ++ [v]).toArray c') -> Q .none { s with heap := h' }) : wpAny (model prog w) A (call (.builtin "list.append") [.ref r, v]) Q E s := by
 refine wpAny_list_append_plain ⟨c, ho⟩ (fun h' hl hs => ?_) (by simpa using hf)
 refine x11 hl fun n e => ?_
 refine h h' n hs (e.trans ?_)
 show some (listO _ _) = some (listO _ _)
 rw [List.push_toArray]
theorem extend_listO {l l2 : List Value} {r2 : Addr} {c2 : Nat} {Q : Value -> Shared -> Prop} (ho : s.heap.get? r = some (listO l.toArray c)) (ho2 : s.heap.get? r2 = some (listO l2.toArray c2)) (hf : l.length + l2.length ≤ sizeLine)
  (h : ∀ h' c', Heap.SameBut r s.heap h' -> h'.get? r = some (listO (l ++ l2).toArray c') -> Q .none { s with heap := h' }) : wpAny (model prog w) A (call (.builtin "list.extend") [.ref r, .ref r2]) Q E s := by
 refine wpAny_call_entry PySem.F.slot_list_extend ⟨_, ho, rfl⟩ PySem.F.entry_list_extend ?_ (PySem.F.args_list_extend_2 _ _)
 show wpAny _ _ (Builtin.List.listExtendWith (.ref r) (.ref r2) .none) _ _ s
 unfold Builtin.List.listExtendWith
 refine wpAny_bind (wpAny_typeOf ⟨_, ho2, rfl⟩ ?_)
 have h1 : (Builtin.List.listSameRef (.ref r) (.ref r2) || Value.type "list" == Value.type "list" || Value.type "list" == Value.type "tuple") = true := by simp
 refine wpAny_ite_true (by first | rfl | simp) ?_
 unfold Builtin.List.listItems
 refine wpAny_bind (wpAny_bind (wpAny_seqItems ho2 rfl (wpAny_pure ?_)))
 refine wpAny_bind (wpAny_bind (wpAny_seqItems ho rfl (wpAny_pure ?_)))
 have h2 : (!l.toArray.isEmpty && Builtin.List.listTooLong (l.toArray.size + l2.toArray.size)) = false := by
  have : Builtin.List.listTooLong (l.toArray.size + l2.toArray.size) = false := by
   unfold Builtin.List.listTooLong
   rw [sizeLine_eq] at hf
   simp only [List.size_toArray]
   exact decide_eq_false (by rw [sizeLine_eq]; lia)
  rw [this, Bool.and_false]
 rw [h2]
 refine wpAny_ite_false (by first | rfl | simp) ?_
 show wpAny _ _ (updateSeq r (· ++ l2.toArray) >>= fun _ => ret .none) _ _ s
 refine wpAny_bind (wpAny_updateSeq (f := (· ++ l2.toArray)) ho rfl (wpAny_pure ⟨.none, rfl, ?_⟩) (by simp; lia) (by simp; lia))
 refine x11 (upd_listO (f := (· ++ l2.toArray)) (arr' := (l ++ l2).toArray) ho (by simp)) fun c' q => ?_
 exact h _ c' (Heap.SameBut.update ..) q
end
theorem off_end {led : List (Addr × Obj)} {D : List Addr} {h g h' : Heap} {L : Addr} {m : Str -> Option Value} (F : Fr g L h' m) (Hg : ∀ b o, h.get? b = some o -> b ∉ led.map (·.1) -> g.get? b = some o) (N : ∀ q ∈ led, h.get? q.1 = some q.2)
  (hl : ∀ q ∈ led, q.1 ∈ D ∨ h'.get? q.1 = some q.2) : OffKeep D h h' := fun b o hb e => by
 by_cases q : b ∈ led.map (·.1)
 ·refine x12 (List.mem_map.mp q) fun p hp q91 => ?_; subst q91
  rw [N p hp] at e; cases e
  exact (hl p hp).resolve_left hb
 ·exact F.keep _ _ (Hg b o e q)
theorem ne_get {h : Heap} {a r : Addr} {o : Obj} (h1 : h.get? a = some o) (h2 : h.get? r = none) : r ≠ a := by rintro rfl; rw [h1] at h2; cases h2
theorem tk_same {h h' : Heap} {d : Addr} {o : Obj} (hs : Heap.SameBut d h h') (ho : h.get? d = some o) (hc : o.cls ≠ .type "tuple") : TupKeep h h' := TupKeep.of_same hs ho hc
end
local macro_rules | `(tactic| k_sizes) => `(tactic| first | exact memI 0 rfl | exact memI 1 rfl | exact memI 2 rfl | exact memI 3 rfl | exact memI 4 rfl | exact memI 5 rfl | exact memI 6 rfl | exact memI 7 rfl | exact memI 8 rfl | exact memI 9 rfl | exact memI 10 rfl)
local macro_rules | `(tactic| omega_side) => `(tactic| first
 | ((with_reducible show _ ∈ _); k_sizes)
 | ((repeat' (first | exact subN | refine' subC ?_ ?_)); k_sizes; done)
 | ((repeat' (first | exact subN | refine' subC ?_ ?_)); (all_goals k_sizes); done)
 | simp)
section
open PySem PySem.W PyProof.Rows PySem.Calls PySem.Spec
theorem r2 {a n r : Nat} (h : a + n < r) (e : Nat.ble 2 n = true) : a + 2 < r := rmL h e
theorem r3 {a n r : Nat} (h : a + n < r) (e : Nat.ble 3 n = true) : a + 3 < r := rmL h e
theorem r4 {a n r : Nat} (h : a + n < r) (e : Nat.ble 4 n = true) : a + 4 < r := rmL h e
theorem r67 {a n r : Nat} (h : a + n < r) (e : Nat.ble 67 n = true) : a + 67 < r := rmL h e
end
local macro_rules | `(tactic| o_norm) => `(tactic| ((first | refine' r67 _ _ | refine' r4 _ _ | refine' r3 _ _ | refine' r2 _ _); rotate_left; assumption; exact rfl))
section
open PySem PySem.W PyProof.Rows PySem.Calls PySem.Spec
section
variable {prog : Program} {w : World} {A : Around} {E : Value -> Shared -> Prop} {s : Shared} {d : Addr} {K : Type} [DecidableEq K] {dk : DKind prog w K} {l : List (K × Value)} {k : K} {x v : Value}
theorem sub_name {a : Str} {b : Pos} {o i : Value} : subscripted (.Name a b) false o i = operate [o, i] (getItem o i) := by with_unfolding_all rfl
theorem sub_at {value : Expr} {a : Str} {b : Pos} {Q : Value -> Shared -> Prop} (hv : (k, v) ∈ l) (D : DictAt dk s.heap d l) (hu : A.units + 1 < cLine) (hx : dk.is s.heap k x) (h : ∀ tk, Q v { s with toks := tk }) : wpAny (model prog w) A (PyProof.Rows.subscriptTail value (.Name a b) (.ref d) x) Q E s :=
 tail_any D.typeIs slot_dict_getitem.lookup (getItem_at D hu hx hv h) sub_name
end
section
variable {prog : Program} {w : World} {lim : Nat}
inductive SetI (prog : Program) (w : World) (lim : Nat) (o : Obj) (l : List Int) : Prop
 | mk : ∀ h a, h.get? a = some o -> SetAt (skInt prog w) lim h a l -> SetI prog w lim o l
theorem SetAt.toI {h : Heap} {a : Addr} {l : List Int} (S : SetAt (skInt prog w) lim h a l) : ∃ o, h.get? a = some o /\ SetI prog w lim o l := by
 refine x12 S.cls fun o ho _ => ?_
 exact ⟨o, ho, h, a, ho, S⟩
theorem SetI.at {h : Heap} {a : Addr} {o : Obj} {l : List Int} (S : SetI prog w lim o l) (e : h.get? a = some o) : SetAt (skInt prog w) lim h a l := by
 obtain ⟨h0, a0, e0, o', es, t, ho, b, hK, r1, r2, r3⟩ := S
 rw [e0] at ho; cases ho
 exact ⟨_, es, t, e, b, hK.mono fun k v hv => hv, r1, r2, r3⟩
theorem SetI.cls {o : Obj} {l : List Int} (S : SetI prog w lim o l) : o.cls = .type "set" := by
 obtain ⟨h0, a0, e0, S⟩ := S
 refine x13 S.cls fun o' e' c _ => ?_
 rw [e0] at e'; cases e'; exact c
theorem SetI.nt {o : Obj} {l : List Int} (S : SetI prog w lim o l) : o.cls ≠ .type "tuple" := by rw [S.cls]; decide
theorem SetI.le {o : Obj} {l : List Int} (S : SetI prog w lim o l) : l.length ≤ lim := by
 obtain ⟨h0, a0, e0, S⟩ := S
 exact S.le
theorem SetI.nodup {o : Obj} {l : List Int} (S : SetI prog w lim o l) : l.Nodup := by
 obtain ⟨h0, a0, e0, o', es, t, ho, b, hK, hn, _⟩ := S
 exact hn
end
section
variable {prog : Program} {w : World} {K : Type} [DecidableEq K] {dk : DKind prog w K} {sk : SKind prog w K} {lim : Nat} {g h h' : Heap} {L a : Addr} {m : Str -> Option Value} {o : Obj} {q : Addr × Obj} {post news : List (Addr × Obj)} {P : Prop}
theorem DictAt.ex {l : List (K × Value)} (D : DictAt dk h a l) : ∃ o, h.get? a = some o /\ o.cls = .type "dict" := by
 obtain ⟨_, es, ep, e, _⟩ := D
 exact ⟨_, e, rfl⟩
theorem DictAt.exP {l : List (K × Value)} (D : DictAt dk h a l) (k : ∀ o, h.get? a = some o -> o.cls = .type "dict" -> P) : P := x12 (D.ex) fun o e c => k o e c
theorem SetAt.exP {l : List K} (S : SetAt sk lim h a l) (k : ∀ o, h.get? a = some o -> o.cls = .type "set" -> P) : P := x13 (S.cls) fun o e c _ => k o e c
theorem SetAt.exI {l : List Int} (S : SetAt (skInt prog w) lim h a l) (k : ∀ o, h.get? a = some o -> SetI prog w lim o l -> P) : P := x12 (S.toI) fun o e c => k o e c
theorem DictAt.hit {l : List (K × Value)} (D : DictAt dk h' a l) (F : Fr g L h m) (N : News g L h ((a, o) :: post)) (h2 : ∀ p ∈ post, p.1 ≠ a) (hs : Heap.SameBut a h h') (k : ∀ o', h'.get? a = some o' -> Fr g L h' m -> News g L h' ((a, o') :: post) -> P) : P :=
 D.exP fun o' e _ => have r := news_hit (pre := []) F N nqN h2 hs e; k o' e r.1 r.2
theorem DictAt.hit1 {l : List (K × Value)} (D : DictAt dk h' a l) (F : Fr g L h m) (N : News g L h (q :: (a, o) :: post)) (h1 : q.1 ≠ a) (h2 : ∀ p ∈ post, p.1 ≠ a) (hs : Heap.SameBut a h h') (k : ∀ o', h'.get? a = some o' -> Fr g L h' m -> News g L h' (q :: (a, o') :: post) -> P) : P :=
 D.exP fun o' e _ => have r := news_hit (pre := [q]) F N (all1 h1) h2 hs e; k o' e r.1 r.2
theorem SetAt.hit {l : List K} (S : SetAt sk lim h' a l) (F : Fr g L h m) (N : News g L h ((a, o) :: post)) (h2 : ∀ p ∈ post, p.1 ≠ a) (hs : Heap.SameBut a h h') (k : ∀ o', h'.get? a = some o' -> o'.cls = .type "set" -> Fr g L h' m -> News g L h' ((a, o') :: post) -> P) : P :=
 S.exP fun o' e c => have r := news_hit (pre := []) F N nqN h2 hs e; k o' e c r.1 r.2
theorem SetAt.hitI {l : List Int} (S : SetAt (skInt prog w) lim h' a l) (F : Fr g L h m) (N : News g L h ((a, o) :: post)) (h2 : ∀ p ∈ post, p.1 ≠ a) (hs : Heap.SameBut a h h') (k : ∀ o', h'.get? a = some o' -> SetI prog w lim o' l -> Fr g L h' m -> News g L h' ((a, o') :: post) -> P) : P :=
 S.exI fun o' e c => have r := news_hit (pre := []) F N nqN h2 hs e; k o' e c r.1 r.2
theorem SetAt.born {l : List K} (S : SetAt sk lim h' a l) (F : Fr g L h m) (N : News g L h news) (hk : ∀ b o, h.get? b = some o -> h'.get? b = some o) (hr : h.get? a = none) (k : ∀ o, h'.get? a = some o -> o.cls = .type "set" -> Fr g L h' m -> News g L h' ((a, o) :: news) -> P) : P :=
 S.exP fun o e c => k o e c (fr_stay F hk) (news_cons (news_stay N hk) e (fresh_off F hr).1 (fresh_off F hr).2)
theorem SetAt.bornI {l : List Int} (S : SetAt (skInt prog w) lim h' a l) (F : Fr g L h m) (N : News g L h news) (hk : ∀ b o, h.get? b = some o -> h'.get? b = some o) (hr : h.get? a = none) (k : ∀ o, h'.get? a = some o -> SetI prog w lim o l -> Fr g L h' m -> News g L h' ((a, o) :: news) -> P) : P :=
 S.exI fun o e c => k o e c (fr_stay F hk) (news_cons (news_stay N hk) e (fresh_off F hr).1 (fresh_off F hr).2)
theorem hit0 {o' : Obj} (F : Fr g L h m) (N : News g L h ((a, o) :: post)) (h2 : ∀ p ∈ post, p.1 ≠ a) (hs : Heap.SameBut a h h') (e : h'.get? a = some o') (k : Fr g L h' m -> News g L h' ((a, o') :: post) -> P) : P :=
 have r := news_hit (pre := []) F N nqN h2 hs e; k r.1 r.2
theorem hit1 {o' : Obj} (F : Fr g L h m) (N : News g L h (q :: (a, o) :: post)) (h1 : q.1 ≠ a) (h2 : ∀ p ∈ post, p.1 ≠ a) (hs : Heap.SameBut a h h') (e : h'.get? a = some o') (k : Fr g L h' m -> News g L h' (q :: (a, o') :: post) -> P) : P :=
 have r := news_hit (pre := [q]) F N (all1 h1) h2 hs e; k r.1 r.2
theorem hit2 {q1 : Addr × Obj} {o' : Obj} (F : Fr g L h m) (N : News g L h (q :: q1 :: (a, o) :: post)) (h1 : q.1 ≠ a) (h1' : q1.1 ≠ a) (h2 : ∀ p ∈ post, p.1 ≠ a) (hs : Heap.SameBut a h h') (e : h'.get? a = some o') (k : Fr g L h' m -> News g L h' (q :: q1 :: (a, o') :: post) -> P) : P :=
 have r := news_hit (pre := [q, q1]) F N (all2 h1 h1') h2 hs e; k r.1 r.2
theorem hit3 {q1 q2 : Addr × Obj} {o' : Obj} (F : Fr g L h m) (N : News g L h (q :: q1 :: q2 :: (a, o) :: post)) (h1 : q.1 ≠ a) (h1' : q1.1 ≠ a) (h1'' : q2.1 ≠ a) (h2 : ∀ p ∈ post, p.1 ≠ a) (hs : Heap.SameBut a h h') (e : h'.get? a = some o') (k : Fr g L h' m -> News g L h' (q :: q1 :: q2 :: (a, o') :: post) -> P) : P :=
 have r := news_hit (pre := [q, q1, q2]) F N (all3 h1 h1' h1'') h2 hs e; k r.1 r.2
theorem bornO {news : List (Addr × Obj)} (F : Fr g L h m) (N : News g L h news) (hk : ∀ b o, h.get? b = some o -> h'.get? b = some o) (hr : h.get? a = none) (e : h'.get? a = some o) (k : Fr g L h' m -> News g L h' ((a, o) :: news) -> P) : P :=
 k (fr_stay F hk) (news_cons (news_stay N hk) e (fresh_off F hr).1 (fresh_off F hr).2)
theorem SetI.neD {l : List Int} {ld : List (K × Value)} {b : Addr} (S : SetI prog w lim o l) (e : h.get? a = some o) (D : DictAt dk h b ld) : a ≠ b := fun q => by
 refine x12 D.ex fun o' e' c => ?_
 rw [← q, e] at e'; cases e'
 rw [S.cls] at c; exact absurd c (by decide)
end
theorem kvSetS {K : Type} [DecidableEq K] {S : Prop} {v0 : Value} (hs : S) (l : List (K × Value)) (k0 a : K) (v : Value) : (a, v) ∈ setV l k0 v0 ↔ (a = k0 /\ v = v0) ∨ (a ≠ k0 /\ S /\ (a, v) ∈ l) :=
 mem_setV.trans ⟨fun h => h.imp (fun e => by cases e; exact ⟨rfl, rfl⟩) fun r => ⟨r.1, hs, r.2⟩, fun h => h.imp (fun r => by rw [r.1, r.2]) fun r => ⟨r.1, r.2.2⟩⟩
theorem fresh_size (h : Heap) : h.get? h.objs.size = none := by
 cases e : h.get? h.objs.size with
 | none => rfl
 | some o => exact absurd (Heap.lt_size e) (Nat.lt_irrefl _)
section
variable {prog : Program} {w : World} {A : Around} {E : Value -> Shared -> Prop} {s : Shared} {K : Type} [DecidableEq K] {sk : SKind prog w K} {lim : Nat} {a : Addr} {l : List K} {dk : DKind prog w K} {ld : List (K × Value)}
theorem meth_set {name : Str} {id : String} {pl : Sem Bool} {Q : Value × List Value -> Shared -> Prop} (S : SetAt sk lim s.heap a l) (slot : Slot "set" name id) (hty : typeOf (.builtin id) = pure (.type "method_descriptor"))
  (h : Q (.builtin id, [.ref a]) s) : wpAny (model prog w) A (getMethod (.ref a) name pl) Q E s :=
 getMethod_builtin S.typeIs PySem.F.plainAttrs_set slot hty (fun b e => by
  cases e
  refine x13 S.cls fun o ho _ hd => ?_
  exact ⟨o, ho, hd⟩) h
theorem meth_dict {name : Str} {id : String} {pl : Sem Bool} {Q : Value × List Value -> Shared -> Prop} (D : DictAt dk s.heap a ld) (slot : Slot "dict" name id) (hty : typeOf (.builtin id) = pure (.type "method_descriptor"))
  (h : Q (.builtin id, [.ref a]) s) : wpAny (model prog w) A (getMethod (.ref a) name pl) Q E s :=
 getMethod_builtin D.typeIs PySem.F.plainAttrs_dict slot hty (fun b e => by
  cases e
  obtain ⟨_, es, ep, ho, _⟩ := D
  exact ⟨_, ho, rfl⟩) h
end
section
variable {prog : Program} {w : World} {A : Around} {E : Value -> Shared -> Prop} {s : Shared} {lim : Nat} {a b : Addr} {l1 l2 : List Int}
theorem difference_ints {Q : Value -> Shared -> Prop} (S : SetAt (skInt prog w) lim s.heap a l1) (S2 : SetAt (skInt prog w) lim s.heap b l2) (hab : a ≠ b) (h7 : lim ≤ 7) (hne : l2 ≠ []) (hu : A.in1.units < cLine)
  (h : ∀ h' r o l', (∀ c o, s.heap.get? c = some o -> h'.get? c = some o) -> s.heap.get? r = none -> h'.get? r = some o -> SetI prog w lim o l' -> (∀ k, k ∈ l' ↔ k ∈ l1 /\ k ∉ l2) -> Q (.ref r) { s with heap := h' }) :
  wpAny (model prog w) A (call (.builtin "set.difference") [.ref a, .ref b]) Q E s :=
 call_difference rfl S S2 hab h7 hne hu fun h' l' hk S' hm => x12 (S'.toI) fun o ho SI => h h' _ o l' hk (fresh_size _) ho SI hm
theorem update_ints {Q : Value -> Shared -> Prop} (S : SetAt (skInt prog w) lim s.heap a l1) (S2 : SetAt (skInt prog w) lim s.heap b l2) (hab : a ≠ b) (h7 : lim ≤ 7) (hu : A.in1.units < cLine)
  (hun : ∀ m : List Int, m.Nodup -> (∀ k ∈ m, k ∈ l1 ∨ k ∈ l2) -> m.length ≤ lim)
  (h : ∀ h' o l', Heap.SameBut a s.heap h' -> h'.get? a = some o -> SetI prog w lim o l' -> (∀ k, k ∈ l' ↔ k ∈ l1 ∨ k ∈ l2) -> Q .none { s with heap := h' }) :
  wpAny (model prog w) A (call (.builtin "set.update") [.ref a, .ref b]) Q E s :=
 call_update_set rfl S S2 hab h7 hu hun fun h' l' hs S' hm => x12 (S'.toI) fun o ho SI => h h' o l' hs ho SI hm
end
theorem snoc_cases {α : Type} (l : List α) : l = [] ∨ ∃ p v, l = p ++ [v] := by
 rcases List.eq_nil_or_concat l with h | ⟨p, v, h⟩
 ·exact .inl h
 ·exact .inr ⟨p, v, by rw [h, List.concat_eq_append]⟩
theorem ints_concat : ∀ {vs : List Value} {b : Value} {ns : List Int}, IntsAre (vs ++ [b]) ns -> ∃ ns' k t, ns = ns' ++ [k] /\ b = .int k t /\ IntsAre vs ns'
 | [], b, _, h => by
  cases h with
  | cons n t h => cases h; exact ⟨[], n, t, rfl, rfl, .nil⟩
 | v :: vs, b, _, h => by
  cases h with
  | cons n t h =>
   refine x33 (ints_concat h) fun ns' k t' q92 e h' => ?_; subst q92
   exact ⟨n :: ns', k, t', rfl, e, .cons n t h'⟩
theorem ints_append {vs us : List Value} {ns ms : List Int} (h : IntsAre vs ns) (h' : IntsAre us ms) : IntsAre (vs ++ us) (ns ++ ms) := by
 induction h with
 | nil => exact h'
 | cons n t _ ih => exact .cons n t ih
theorem ints_len {vs : List Value} {ns : List Int} (h : IntsAre vs ns) : vs.length = ns.length := by
 induction h with
 | nil => rfl
 | cons _ _ _ ih => exact congrArg Nat.succ ih
end
-- NExpand
section
open PySem PySem.W PyProof.Rows PySem.Calls
theorem off_NExpand : True := by
 w_top off
 trivial
inductive Star (E : Int -> Str -> Int -> Prop) (e : Str) : Int -> Int -> Prop
 | refl (a : Int) : Star E e a a
 | step {a b c : Int} : Star E e a b -> E b e c -> Star E e a c
noncomputable abbrev EPS : Str := Str.ofString "<EPSILON>"
noncomputable def Clos (E : Int -> Str -> Int -> Prop) (l : List Int) (b : Int) : Prop := ∃ a ∈ l, Star E EPS a b
noncomputable abbrev nfaD (w : World) (t f : Addr) (init : Value) (t1 t2 t3 : Tok) (n : Nat) : Obj :=
 dictOf [⟨PyData.keyHash w.params (Str.ofString "transitions"), .str (Str.ofString "transitions") t1, .ref t⟩,
  ⟨PyData.keyHash w.params (Str.ofString "final_states"), .str (Str.ofString "final_states") t2, .ref f⟩,
  ⟨PyData.keyHash w.params (Str.ofString "initial"), .str (Str.ofString "initial") t3, init⟩] n
theorem clos_U {E : Int -> Str -> Int -> Prop} {U : Int -> Prop} {l : List Int} (hl : ∀ a ∈ l, U a) (hE : ∀ a lab b, E a lab b -> U b) {b : Int} (h : Clos E l b) : U b := by
 refine x12 h fun a ha hab => ?_
 cases hab with
 | refl => exact hl _ ha
 | step _ h => exact hE _ _ _ h
theorem union_len {l1 l2 l : List Int} (n1 : l1.Nodup) (n2 : l2.Nodup) (n : l.Nodup) (hd : ∀ k ∈ l2, k ∉ l1) (hm : ∀ k, k ∈ l ↔ k ∈ l1 ∨ k ∈ l2) : l.length = l1.length + l2.length := by
 have : l.Perm (l1 ++ l2) := (List.perm_ext_iff_of_nodup n (List.nodup_append.mpr ⟨n1, n2, fun a ha b hb e => hd b hb (e ▸ ha)⟩)).mpr fun a => by rw [hm, List.mem_append]
 rw [this.length_eq, List.length_append]
noncomputable def NeA (prog : Program) (w : World) (x : Addr) (dx : Addr) (t : Addr) (f : Addr) (r : Addr) (st : Addr) (t1 : Tok) (t2 : Tok) (t3 : Tok) (n : Nat) (init : Value) (Ar : Int -> Str -> Int -> Prop) (l : List Int) (k9 : Nat) (m : Str -> Option Value) (G9 : List (Addr × Obj) -> Prop) : Prop := ∀ (arr : List Value) (c : Nat) (o : Obj) (lc ns : List Int) (q0 : k9 = ns.length + 2 * (7 - lc.length)) (q1 : m (Str.ofString "frontier") = some (.ref r)) (q2 : m (Str.ofString "transitions") = some (.ref t)) (q3 : m (Str.ofString "states") = some (.ref st)) (q5 : IntsAre arr ns) (q6 : SetI prog w 7 o lc) (q7 : ns.length ≤ lc.length) (q8 : (∀ a ∈ l, a ∈ lc)) (q9 : (∀ b ∈ lc, Clos Ar l b)) (q10 : (∀ a ∈ ns, a ∈ lc)) (q11 : (∀ a ∈ lc, a ∉ ns -> ∀ b, Ar a EPS b -> b ∈ lc)), G9 [(r, listO arr.toArray c), (st, o), (x, instObj 229 dx), (dx, nfaD w t f init t1 t2 t3 n)]
variable {prog : Program} {w : World} {p : Program} {loose : List Str} {mean : ExcName -> Option Value} {mg mb : Str -> Option Value} {hz0 : Heap}
variable {s : Shared} {dp un : Nat} {fr : List Env} {gd : Option (List Code)} {R : Result -> Shared -> Prop}
theorem n_expand {x dx t f : Addr} {t1 t2 t3 : Tok} {init : Value} {n : Nat} {l : List Int} {Ar : Int -> Str -> Int -> Prop} {U : Int -> Prop} (H : Base (hd.heap_1 w.params) p loose mean mg mb hz0) (hk : ∀ b o, hz0.get? b = some o -> s.heap.get? b = some o)
  {st : Addr} (hst : SetAt (skInt prog w) 7 s.heap st l) (n0 : hz0.get? st = none) (n1 : st ≠ x) (n2 : st ≠ dx)
  (hN : ∀ q ∈ [(x, instObj 229 dx), (dx, nfaD w t f init t1 t2 t3 n)], s.heap.get? q.1 = some q.2 /\ hz0.get? q.1 = none)
  {hq : Heap} (hqs : ∀ b o, hq.get? b = some o -> s.heap.get? b = some o) (q0 : hq.get? st = none) (q1 : hq.get? x = none) (q2 : hq.get? dx = none) (hT : TrRel prog w hq t Ar)
  (hU : ∀ m : List Int, m.Nodup -> (∀ k ∈ m, U k) -> m.length ≤ 7) (hl : ∀ a ∈ l, U a) (hE : ∀ a lab b, Ar a lab b -> U b)
  (hd1 : dp + 5 < recursionLimit) (hu : un + 20 < cLine)
  (hR : ∀ h' tk dr l', OffKeep [st] s.heap h' -> SetAt (skInt prog w) 7 h' st l' -> (∀ b, b ∈ l' ↔ Clos Ar l b) -> R (.ok (.ret (.ref st))) { s with heap := h', toks := tk, drawn := dr }) :
  codeAny (model prog w) (A0 dp un fr gd) (.call (.ref 191) ⟨[.ref x, .ref st], []⟩) R s := by
 refine hst.exI fun o0 ho0 S0 => ?_
 have hN2 : ∀ q ∈ [(st, o0), (x, instObj 229 dx), (dx, nfaD w t f init t1 t2 t3 n)], s.heap.get? q.1 = some q.2 /\ hz0.get? q.1 = none := allC ⟨ho0, n0⟩ hN
 clear hN
 k_dflt (apply enter; assumption; assumption; assumption; k_is; k_is; exact Nat.lt_of_le_of_lt (Nat.le_add_right _ _) (by assumption); exact BindsTo.of_eq rfl; exact locs rfl; exact rfl; exact rfl; exact rfl; decide; k_whole; intro _ _ _ _ _ _ _ _ _; (try dsimp only); (try k_fold))
 rename_i g hz1 Hg Hs Hk F N X T
 have Tg := hT.stay (sub_hide Hg hqs (all3 q0 q1 q2))
 o_steps
 (rename Fr _ _ _ _ => F'; rename News _ _ _ _ => N'; try rename Heap => h')
 refine list_of_set (S0.at (N'.get (by k_mem))) rfl fun h2 tk dr r arr c' ns I hp hk2 hfr hnew => ?_
 have r1 : r ≠ st := ne_get (N'.get (by k_mem)) hfr
 have r2 : r ≠ x := ne_get (N'.get (by k_mem)) hfr
 have r3 : r ≠ dx := ne_get (N'.get (by k_mem)) hfr
 refine bornO F' N' hk2 hfr hnew fun F2 N2 => ?_
 clear F' N'
 o_steps
 (rename Fr _ _ _ _ => F3; rename News _ _ _ _ => N3; try rename Heap => h3)
 have hIs : IntsAre arr ns := I
 refine While_my (nz0 := ns.length + 2 * (7 - l.length)) (fun k9 m news _ => Chu (NeA prog w x dx t f r st t1 t2 t3 n init Ar l k9 m) news) F3 N3 ?_ ?_
 ·exact (fun _ k9 => k9 arr c' o0 l ns rfl rfl rfl rfl hIs S0 (by rw [hp.length_eq]; exact Nat.le_refl _) (fun a ha => ha) (fun b hb => ⟨b, hb, .refl b⟩) (fun a ha => hp.mem_iff.mp ha) (fun a ha hna => absurd (hp.mem_iff.mpr ha) hna))
 ·intro nz1 mz1 news1 hz1 tkz1 dr1 F1 N1 hJ9
  revert F1 N1
  refine Chu.out hJ9 ?_
  clear hJ9
  rintro arr c o lc ns rfl e1 e2 e3 Ia S1 j0 j1 j2 j3 j4 F1 N1
  refine whileMy_hide fun G hG => ?_
  have F1 := fr_put (Str.ofString "frontier") (fr_put (Str.ofString "transitions") (fr_put (Str.ofString "states") F1 e3) (by exact e2)) (by exact e1)
  have hl7 := S1.le
  have hsz : arr.length ≤ 7 := by rw [ints_len Ia]; lia
  o_steps
  rotate_left
  ·refine hR _ _ _ lc (off_end F1 Hg (fun q hq => (hN2 q hq).1) ?_) (S1.at (N1.get (by k_mem))) fun b => ⟨j2 b, ?_⟩
   ·exact all3 (.inl (.head _)) (.inr (N1.get (by k_mem))) (.inr (N1.get (by k_mem)))
   ·have hns : ns = [] := List.eq_nil_of_length_eq_zero (by lia)
    subst hns
    rintro ⟨a, ha, hab⟩
    induction hab with
    | refl => exact j1 _ ha
    | step _ h ih => exact j4 _ ih (by omega_side) _ h
  ·rcases snoc_cases arr with rfl | ⟨pre, v, rfl⟩
   ·cases Ia; simp at *
   refine x33 (ints_concat Ia) fun ns' k tv q91 q92 Ia' => ?_; subst q91; subst q92
   refine pop_listO (l := pre) (v := .int k tv) (c := c) ?_ ?_ fun h' c' hs ho' => ?_
   ·exact N1.get (by k_mem)
   ·rw [sizeLine_eq]; simp at hsz; lia
   refine hit0 F1 N1 (nqC (Ne.symm r1) (nqC (Ne.symm r2) (nqC (Ne.symm r3) nqN))) hs ho' fun Fz2 Nz2 => ?_
   clear N1 F1
   o_steps
   (rename Fr _ _ _ _ => Fz3; rename News _ _ _ _ => Nz3; try rename Heap => hz3)
   obtain ⟨lt, Dt, t1', t2'⟩ := Tg
   by_cases hkt : k ∈ lt.map (·.1)
   ·(apply in_yes hkt; exact (Dt.fr Fz3); (o_norm; exact ⟨_, rfl⟩; intro _))
    refine trGet t1' hkt fun d li hkv Di t3' t4' => ?_
    o_steps
    (apply sub_at hkv; exact (Dt.fr Fz3); (o_norm; exact ⟨_, rfl⟩; intro _))
    by_cases hkE : EPS ∈ li.map (·.1)
    ·(apply in_yes hkE; exact (Di.fr Fz3); (o_norm; exact ⟨_, rfl⟩; intro _))
     refine setGet t3' hkE fun sa xs hkvE Ss hxs => ?_
     o_steps
     (apply sub_at hkv; exact (Dt.fr Fz3); (o_norm; exact ⟨_, rfl⟩; intro _))
     o_steps
     (apply sub_at hkvE; exact (Di.fr Fz3); (o_norm; exact ⟨_, rfl⟩; intro _))
     o_steps
     refine meth_set (Ss.fr Fz3) PySem.F.slot_set_difference PySem.F.type_set_difference ?_
     o_steps
     have nsa : sa ≠ st := Ss.exP fun o' e' _ => Ne.symm (ne_get e' (Nz3.fresh (a := st) (o := o) (by k_mem)))
     have hkl : k ∈ lc := j3 _ (List.mem_append_right _ (.head _))
     refine difference_ints (lim := 7) (l1 := xs) (l2 := lc) ?_ ?_ nsa (by decide) ?_ ?_ fun h4 dd od ld hk4 hd4 ho4 Sd hld => ?_
     ·exact Ss.fr Fz3
     ·exact S1.at (Nz3.get (by k_mem))
     ·rintro rfl; cases hkl
     ·o_norm
     have d1 : dd ≠ r := ne_get (Nz3.get (by k_mem)) hd4
     have d2 : dd ≠ st := ne_get (Nz3.get (by k_mem)) hd4
     refine bornO Fz3 Nz3 hk4 hd4 ho4 fun F4 N4 => ?_
     clear Fz3 Nz3
     o_steps
     (rename Fr _ _ _ _ => F5; rename News _ _ _ _ => N5; try rename Heap => h5)
     refine list_of_set (l := ld) (lim := 7) ?_ rfl fun h6 tk6 dr6 lr arr6 c6 ns6 I6 hp6 hk6 hfr6 hnew6 => ?_
     ·exact Sd.at (N5.get (by k_mem))
     have l1' : lr ≠ r := ne_get (N5.get (by k_mem)) hfr6
     have l2' : lr ≠ st := ne_get (N5.get (by k_mem)) hfr6
     refine bornO F5 N5 hk6 hfr6 hnew6 fun F6 N6 => ?_
     clear F5 N5
     have hund := ints_len I6
     have hld7 := Sd.le
     o_steps
     refine extend_listO (l := pre) (l2 := arr6) (c := c') (c2 := c6) ?_ ?_ ?_ fun h7 c7 hs7 ho7 => ?_
     ·exact N6.get (by k_mem)
     ·exact N6.get (by k_mem)
     ·rw [sizeLine_eq]; simp at hsz; have := hp6.length_eq; lia
     refine hit2 F6 N6 l1' d1 (nqC (Ne.symm r1) (nqC (Ne.symm r2) (nqC (Ne.symm r3) nqN))) hs7 ho7 fun F7 N7 => ?_
     clear F6 N6
     o_steps
     refine meth_set (S1.at (N7.get (by k_mem))) PySem.F.slot_set_update PySem.F.type_set_update ?_
     o_steps
     have UC : ∀ b ∈ lc, U b := fun b hb => clos_U hl hE (j2 b hb)
     refine update_ints (lim := 7) (l1 := lc) (l2 := ld) ?_ ?_ (Ne.symm d2) (by decide) ?_ ?_ fun h8 o8 l8 hs8 ho8 S8 hl8 => ?_
     ·exact S1.at (N7.get (by k_mem))
     ·exact Sd.at (N7.get (by k_mem))
     ·o_norm
     ·exact fun m hm hmm => hU m hm fun q hq => (hmm q hq).elim (UC q) fun q1 => hE _ _ _ ((hxs q).mp ((hld q).mp q1).1)
     refine hit3 F7 N7 l2' d2 r1 (nqC (Ne.symm n1) (nqC (Ne.symm n2) nqN)) hs8 ho8 fun F8 N8 => ?_
     clear F7 N7
     o_steps
     have len8 := union_len S1.nodup Sd.nodup S8.nodup (fun q hq => ((hld q).mp hq).2) hl8
     have len6 := hp6.length_eq
     have le8 := S8.le
     simp only [List.length_append, List.length_singleton] at j0 hsz
     refine hG _ _ _ _ _ _ F8 (fun q hq => N8 q (List.mem_cons_of_mem _ (List.mem_cons_of_mem _ hq))) ?_ (fun _ k9 => k9 (pre ++ arr6) c7 o8 l8 (ns' ++ ns6) rfl rfl rfl rfl (ints_append Ia' I6) S8 ?_ (fun a ha => (hl8 a).mpr (.inl (j1 a ha))) (fun b hb => ?_) (fun a ha => ?_) (fun a ha hna b hab => ?_))
     ·simp only [List.length_append, List.length_singleton]; lia
     ·simp only [List.length_append]; lia
     ·exact ((hl8 b).mp hb).elim (j2 b) fun q => x12 (j2 _ hkl) fun a ha hs => ⟨a, ha, .step hs ((hxs b).mp ((hld b).mp q).1)⟩
     ·exact (List.mem_append.mp ha).elim (fun q => (hl8 a).mpr (.inl (j3 a (List.mem_append_left _ q)))) fun q => (hl8 a).mpr (.inr (hp6.mem_iff.mp q))
     ·refine ((hl8 a).mp ha).elim (fun q => ?_) fun q => ?_
      ·by_cases e : a = k
       ·subst e
        by_cases q2 : b ∈ lc
        ·exact (hl8 b).mpr (.inl q2)
        ·exact (hl8 b).mpr (.inr ((hld b).mpr ⟨(hxs b).mpr hab, q2⟩))
       ·refine (hl8 b).mpr (.inl (j4 a q (fun q3 => ?_) b hab))
        exact (List.mem_append.mp q3).elim (fun q4 => hna (List.mem_append_left _ q4)) fun q4 => e (List.mem_singleton.mp q4)
      ·exact absurd (List.mem_append_right _ (hp6.mem_iff.mpr q)) hna
    ·(apply in_no hkE; exact (Di.fr Fz3); (o_norm; exact ⟨_, rfl⟩; intro _))
     o_steps
     simp only [List.length_append, List.length_singleton] at j0 hsz
     refine hG _ _ _ _ _ _ Fz3 Nz3 ?_ (fun _ k9 => k9 pre c' o lc ns' rfl rfl rfl rfl Ia' S1 ?_ j1 j2 (fun a ha => j3 a (List.mem_append_left _ ha)) (fun a ha hna b hab => ?_))
     ·simp only [List.length_append, List.length_singleton]; lia
     ·lia
     ·by_cases e : a = k
      ·subst e; exact absurd (t4' _ _ hab) hkE
      ·refine j4 a ha (fun q3 => ?_) b hab
       exact (List.mem_append.mp q3).elim hna fun q4 => e (List.mem_singleton.mp q4)
   ·(apply in_no hkt; exact (Dt.fr Fz3); (o_norm; exact ⟨_, rfl⟩; intro _))
    o_steps
    simp only [List.length_append, List.length_singleton] at j0 hsz
    refine hG _ _ _ _ _ _ Fz3 Nz3 ?_ (fun _ k9 => k9 pre c' o lc ns' rfl rfl rfl rfl Ia' S1 ?_ j1 j2 (fun a ha => j3 a (List.mem_append_left _ ha)) (fun a ha hna b hab => ?_))
    ·simp only [List.length_append, List.length_singleton]; lia
    ·lia
    ·by_cases e : a = k
     ·subst e; exact absurd (t2' _ _ _ hab) hkt
     ·refine j4 a ha (fun q3 => ?_) b hab
      exact (List.mem_append.mp q3).elim hna fun q4 => e (List.mem_singleton.mp q4)
end
-- SetMk
section
open PySem PySem.W PyProof.Rows PySem.Calls PySem.Spec
open PySem.SetTable PySem.Builtin.Frozenset
section
variable {prog : Program} {w : World} {A : Around} {E : Value -> Shared -> Prop} {s : Shared}
theorem type_made {T newId initId : String} {args : List Value} {Q Q₁ : Value -> Shared -> Prop} (ft : TypeCalled T newId initId)
  (hct : checkTypeCall T ⟨args, []⟩ = pure ())
  (hnew : codeAny (model prog w) A.in1 (.call (.builtin newId) ⟨.type T :: args, []⟩) (wants Q₁ E) s)
  (hnext : ∀ obj sz1, Q₁ obj sz1 -> sz1.TypeIs obj T /\ codeAny (model prog w) A.in1 (.call (.builtin initId) ⟨obj :: args, []⟩) (wants (fun r sz2 => r = .none /\ Q obj sz2) E) sz1) :
  wpAny (model prog w) A (call (.type T) args) Q E s := by
 refine x21 ft.mro fun c tl hmro => ?_
 have hmade := ft.made
 have hsub := ft.sub
 refine wpAny_call (codeAny_of_tree ?_)
 show wpAny _ _ (callAny (.type T) _) _ _ _
 refine wpAny_pure ⟨Code.quiet_builtin _ (by decide +kernel), codeAny_builtin F.entry_type_call ?_⟩
 rw [Around.under_plain (weight_type_call_type T args []) rfl]
 have h1 := ft.notType
 have h2 := ft.canCreate
 repeat (any_goals (first | assumption | wp_step))
 refine codeAny_mono hnew fun r sz1 hr => ?_
 cases r with
 | error e => exact hr
 | ok fl =>
  cases fl with
  | ret obj =>
   refine x02 (hnext _ _ hr) fun hT hsi => ?_
   have hli := ft.init.lookup
   have hbi := ft.init.bind obj
   repeat (any_goals (first | assumption | wp_step))
   refine codeAny_mono hsi fun rz2 sz2 hrz2 => ?_
   cases rz2 with
   | error e => exact hrz2
   | ok fl2 =>
    cases fl2 with
    | ret r =>
     refine x02 hrz2 fun q91 hq => ?_; subst q91
     repeat (any_goals (first | assumption | wp_step))
    | _ => exact hrz2.elim
  | _ => exact hr.elim
theorem set_new_led {args : List Value} {Q₁ : Value -> Shared -> Prop} (hc : checkBuiltinCall "set.__new__" ⟨.type "set" :: args, []⟩ = pure ())
  (h : Q₁ (.ref s.heap.objs.size) { s with heap := s.heap.push (setO #[] 0 (.fresh 0 0 (!byText w))) }) :
  codeAny (model prog w) A (.call (.builtin "set.__new__") ⟨.type "set" :: args, []⟩) (wants Q₁ E) s := by
 refine codeAny_of_tree ?_
 show wpAny _ A.in1 (do checkBuiltinCall "set.__new__" ⟨.type "set" :: args, []⟩; again (.builtin "set.__new__" ⟨.type "set" :: args, []⟩)) _ _ s
 refine wpAny_bind (wpAny_of_eq hc (wpAny_pure ⟨plainId_quiet F.plain_set_new _, codeAny_builtin F.entry_set_new ?_⟩))
 rw [Around.under_plainId F.plain_set_new _]
 unfold Builtin.«set.__new__» Builtin.Frozenset.newClass
 have hsub := sub_set_self
 obtain ⟨hp, g, d, tk, os⟩ := s
 dsimp only
 wp_walk
 refine wpAny_askSetting (wpAny_pure ?_)
 dsimp only
 simp only [newObj]
 refine wpAny_bind (wpAny_alloc (wpAny_pure ?_))
 exact wpAny_pure h
theorem fresh_set {h : Heap} : SetAt (skInt prog w) 7 (h.push (setO #[] 0 (.fresh 0 0 (!byText w)))) h.objs.size [] :=
 ⟨_, #[], _, Heap.get?_push_size _ rfl, ⟨0, rfl, TabOk.fresh (by decide) _ _ _⟩, KeysAre.nil, List.nodup_nil, (fun k hk => by simp at hk), rfl, fun _ => rfl⟩
theorem fresh_setK {K : Type} [DecidableEq K] {sk : SKind prog w K} {lim : Nat} (hl : lim ≤ 18) {h : Heap} : SetAt sk lim (h.push (setO #[] 0 (.fresh 0 0 (!byText w)))) h.objs.size [] :=
 ⟨_, #[], _, Heap.get?_push_size _ rfl, ⟨0, rfl, TabOk.fresh hl _ _ _⟩, KeysAre.nil, List.nodup_nil, (fun k hk => by simp at hk), rfl, fun _ => rfl⟩
theorem call_set0 {K : Type} [DecidableEq K] {sk : SKind prog w K} {lim : Nat} (hl : lim ≤ 18) {Q : Value -> Shared -> Prop}
  (h : ∀ h' r, (∀ b o, s.heap.get? b = some o -> h'.get? b = some o) -> s.heap.get? r = none -> SetAt sk lim h' r [] -> Q (.ref r) { s with heap := h' }) :
  wpAny (model prog w) A (call (.type "set") []) Q E s := by
 refine type_made (Q₁ := fun obj sz1 => obj = .ref s.heap.objs.size /\ sz1 = { s with heap := s.heap.push (setO #[] 0 (.fresh 0 0 (!byText w))) }) F.called_set F.typeCall_set_0 (set_new_led F.newCall_set_0 ⟨rfl, rfl⟩) fun obj sz1 hz1 => ?_
 refine x02 hz1 fun q92 q93 => ?_; subst q92; subst q93
 have hS : (s.heap.push (setO #[] 0 (.fresh 0 0 (!byText w)))).get? s.heap.objs.size = some (setO #[] 0 (.fresh 0 0 (!byText w))) := Heap.get?_push_size _ rfl
 have hT : Shared.TypeIs { s with heap := s.heap.push (setO #[] 0 (.fresh 0 0 (!byText w))) } (.ref s.heap.objs.size) "set" := ⟨_, hS, rfl⟩
 refine ⟨hT, codeAny_call_builtin F.called_set.init.plain F.entry_set_init (check_set_init hT ?_)⟩
 unfold Builtin.«set.__init__» noKeywords
 wp_walk
 exact ⟨rfl, h _ _ (fun b o e => Heap.get?_push_of_some _ e) (fresh_size _) (fresh_setK hl)⟩
theorem nodup_le {α : Type} {l1 l2 : List α} (hn : l1.Nodup) (hs : ∀ x ∈ l1, x ∈ l2) : l1.length ≤ l2.length := hn.length_le_of_subset hs
noncomputable def IntAt (ns : List Int) (i : Nat) (v : Value) : Prop := ∃ n t, ns[i]? = some n /\ v = .int n t
theorem intAt_of {items : Array Value} {ns : List Int} (h : IntsAre items.toList ns) : ∀ i v, items[i]? = some v -> IntAt ns i v := by
 intro i v hv
 have hv' : items.toList[i]? = some v := by rw [Array.getElem?_toList]; exact hv
 clear hv
 generalize items.toList = vs at *
 induction h generalizing i with
 | nil => simp at hv'
 | cons n t _ ih =>
  cases i with
  | zero => simp at hv'; exact ⟨n, t, by simp, hv'.symm⟩
  | succ i =>
   refine x22 (ih i (by simpa using hv')) fun m t' h1 h2 => ?_
   exact ⟨m, t', by simpa using h1, h2⟩
theorem keep_int {h h' : Heap} {r : Addr} {lim : Nat} {l : List Int} (S : SetAt (skInt prog w) lim h r l) (e : ∀ o, h.get? r = some o -> h'.get? r = some o) : SetAt (skInt prog w) lim h' r l :=
 let ⟨_, ho, SI⟩ := S.toI; SI.at (e _ ho)
theorem update_loop {R : Result -> Shared -> Prop} {I r : Addr} {fp : List Addr} {St : Nat -> Heap -> Prop} {ns : List Int} {P : Nat -> Value -> Prop} (W : Walks prog w A.in1 I fp [I] ns.length P St) (hP : ∀ i v, P i v -> IntAt ns i v) (hu : A.in1.units < cLine) (hrfp : r ∉ fp) :
  ∀ (k i : Nat) (s : Shared) (lr : List Int), ns.length - i = k -> i ≤ ns.length -> St i s.heap -> SetAt (skInt prog w) 7 s.heap r lr -> (∀ m : List Int, m.Nodup -> (∀ x ∈ m, x ∈ lr ∨ x ∈ ns) -> m.length ≤ 7) ->
   (∀ h' tk lr', OffKeep [I, r] s.heap h' -> SetAt (skInt prog w) 7 h' r lr' -> (∀ x, x ∈ lr' ↔ x ∈ lr ∨ x ∈ ns.drop i) -> R (.ok (.ret .none)) { s with heap := h', toks := tk }) ->
   codeAny (model prog w) A (.builtin "set.update.loop" ⟨[.ref r, .ref I], []⟩) R s := by
 have hrI : r ≠ I := fun q => hrfp (q ▸ W.sub _ (by simp))
 intro k
 induction k with
 | zero =>
  intro i s lr hk hi hst Sr hb hR
  have hin : i = ns.length := Nat.le_antisymm hi (Nat.le_of_sub_eq_zero hk)
  subst hin
  refine codeAny_builtin entry_update_loop ?_
  rw [Around.under_plainId plain_update_loop _]
  show wpAny _ A.in1 (pyNext (.ref I) >>= _) _ _ s
  refine wpAny_bind (W.done s _ _ hst fun h' tk hk' => ?_)
  exact wpAny_pure (hR h' tk lr (fun b o hb e => hk' b o (fun q => hb (by simp at q; simp [q])) e) (keep_int Sr fun o e => hk' r o (by simpa using hrI) e) (by simp))
 | succ k ih =>
  intro i s lr hk hi hst Sr hb hR
  have hlt : i < ns.length := Nat.lt_of_sub_pos (hk ▸ Nat.succ_pos k)
  refine codeAny_builtin entry_update_loop ?_
  rw [Around.under_plainId plain_update_loop _]
  show wpAny _ A.in1 (pyNext (.ref I) >>= _) _ _ s
  refine wpAny_bind (W.item i s _ _ hlt hst fun v h1 tk hv hst1 hk1 => ?_)
  refine x22 (hP i v hv) fun n t hn q94 => ?_; subst q94
  have S1 : SetAt (skInt prog w) 7 h1 r lr := keep_int Sr fun o e => hk1 r o (by simpa using hrI) e
  show wpAny _ A.in1 (holding [Value.int n t] (setAdd r (.int n t)) >>= _) _ _ _
  refine wpAny_bind (wpAny_holding ?_)
  unfold setAdd
  refine wpAny_holding ?_
  refine wpAny_bind (wpAny_pyHash_int ?_)
  have hnm : n ∈ ns := List.mem_of_getElem? hn
  refine S1.addW (s := { s with heap := h1, toks := tk + 1 }) hu trivial ⟨t, rfl⟩ (fun hk => ?_) fun h2 l2 b hs2 hl2 S2 => ?_
  ·have hnd : (n :: lr).Nodup := by
    obtain ⟨_, _, _, _, _, _, hn, _⟩ := S1
    exact List.nodup_cons.mpr ⟨hk, hn⟩
   have := hb (n :: lr) hnd (fun x hx => by
    rcases List.mem_cons.mp hx with rfl | hx
    ·exact .inr hnm
    ·exact .inl hx)
   simpa using this
  ·have hdrop : ns.drop i = n :: ns.drop (i + 1) := by
    rw [List.drop_eq_getElem_cons hlt]
    congr 1
    rw [List.getElem?_eq_getElem hlt] at hn
    exact Option.some.inj hn
   refine wpAny_pure ⟨plainId_quiet plain_update_loop _, ih (i + 1) _ l2 (Nat.succ.inj ((sub_s hlt).symm.trans hk)) hlt (W.frame _ h1 h2 hst1 fun b hb o e => (hs2.2 b (fun q => hrfp (q ▸ hb))).trans e) S2 (fun m hm hmm => hb m hm fun x hx => ?_) fun h3 tk3 l3 hk3 S3 hm3 => ?_⟩
   ·rcases hmm x hx with q | q
    ·rcases (mem_added hl2 x).mp q with rfl | q
     ·exact .inr hnm
     ·exact .inl q
    ·exact .inr q
   ·refine hR h3 tk3 l3 (fun b o hb e => ?_) S3 fun x => ?_
    ·simp only [List.mem_cons, List.not_mem_nil, or_false, not_or] at hb
     exact hk3 b o (by simp [hb.1, hb.2]) ((hs2.2 b hb.2).trans (hk1 b o (by simp [hb.1]) e))
    ·rw [hm3, mem_added hl2, hdrop, List.mem_cons]
     exact ⟨fun q => q.elim (fun q => q.elim (fun e => .inr (.inl e)) .inl) fun q => .inr (.inr q), fun q => q.elim (fun q => .inl (.inr q)) fun q => q.elim (fun e => .inl (.inl e)) .inr⟩
theorem size_setI {a : Addr} {lim : Nat} {l : List Int} {Q : Nat -> Shared -> Prop} (S : SetAt (skInt prog w) lim s.heap a l) (h : Q l.length s) : wpAny (model prog w) A (sizeOf a) Q E s := by
 refine x44 S.obj fun oa ea epa ta hoa q95 hsza hfa => ?_; subst q95
 unfold Builtin.Frozenset.sizeOf
 refine wpAny_bind (wpAny_setEntries_of hoa rfl hfa (wpAny_pure ?_))
 rw [hsza]; exact h
theorem inter_loop {R : Result -> Shared -> Prop} {I a r : Addr} {fp : List Addr} {St : Nat -> Heap -> Prop} {l ns : List Int} {P : Nat -> Value -> Prop} (W : Walks prog w A.in1 I fp [I] ns.length P St) (hP : ∀ i v, P i v -> IntAt ns i v) (hu : A.in1.units < cLine) (har : a ≠ r) (haI : a ≠ I) (hrfp : r ∉ fp) :
  ∀ (k i : Nat) (s : Shared) (lr : List Int), ns.length - i = k -> i ≤ ns.length -> St i s.heap -> SetAt (skInt prog w) 7 s.heap a l -> SetAt (skInt prog w) 7 s.heap r lr -> (∀ x ∈ lr, x ∈ l) ->
   (∀ h' tk lr', OffKeep [I, r] s.heap h' -> SetAt (skInt prog w) 7 h' r lr' -> (lr' ≠ [] ↔ lr ≠ [] ∨ ∃ x ∈ ns.drop i, x ∈ l) -> R (.ok (.ret .none)) { s with heap := h', toks := tk }) ->
   codeAny (model prog w) A (.builtin "frozenset.intersection.loop" ⟨[.ref a, .ref I, .ref r], []⟩) R s := by
 have hrI : r ≠ I := fun q => hrfp (q ▸ W.sub _ (by simp))
 intro k
 induction k with
 | zero =>
  intro i s lr hk hi hst Sa Sr hsub hR
  have hin : i = ns.length := Nat.le_antisymm hi (Nat.le_of_sub_eq_zero hk)
  subst hin
  refine codeAny_builtin entry_inter_loop ?_
  rw [Around.under_plainId plain_inter_loop _]
  show wpAny _ A.in1 (pyNext (.ref I) >>= _) _ _ s
  refine wpAny_bind (W.done s _ _ hst fun h' tk hk' => ?_)
  exact wpAny_pure (hR h' tk lr (fun b o hb e => hk' b o (fun q => hb (by simp at q; simp [q])) e) (keep_int Sr fun o e => hk' r o (by simpa using hrI) e) (by simp))
 | succ k ih =>
  intro i s lr hk hi hst Sa Sr hsub hR
  have hlt : i < ns.length := Nat.lt_of_sub_pos (hk ▸ Nat.succ_pos k)
  refine codeAny_builtin entry_inter_loop ?_
  rw [Around.under_plainId plain_inter_loop _]
  show wpAny _ A.in1 (pyNext (.ref I) >>= _) _ _ s
  refine wpAny_bind (W.item i s _ _ hlt hst fun v h1 tk hv hst1 hk1 => ?_)
  refine x22 (hP i v hv) fun n t hn q96 => ?_; subst q96
  have S1 : SetAt (skInt prog w) 7 h1 r lr := keep_int Sr fun o e => hk1 r o (by simpa using hrI) e
  have Sa1 : SetAt (skInt prog w) 7 h1 a l := keep_int Sa fun o e => hk1 a o (by simpa using haI) e
  have hdrop : ns.drop i = n :: ns.drop (i + 1) := by
   rw [List.drop_eq_getElem_cons hlt]
   congr 1
   rw [List.getElem?_eq_getElem hlt] at hn
   exact Option.some.inj hn
  show wpAny _ A.in1 (holding [Value.int n t] (pyHash (.int n t)) >>= _) _ _ _
  refine wpAny_bind (wpAny_holding (wpAny_pyHash_int ?_))
  refine wpAny_bind (wpAny_holding ?_)
  refine Sa1.findH (s := { s with heap := h1, toks := tk + 1 }) (k := n) hu trivial ⟨t, rfl⟩ fun o ho => ?_
  by_cases hkl : n ∈ l
  ·rw [if_pos (ho.mpr hkl)]
   refine wpAny_bind (wpAny_holding ?_)
   refine S1.addW (s := { s with heap := h1, toks := tk + 1 }) hu trivial ⟨t, rfl⟩ (fun hk => ?_) fun h2 l2 b hs2 hl2 S2 => ?_
   ·have hnd : (n :: lr).Nodup := by
     obtain ⟨_, _, _, _, _, _, hn, _⟩ := S1
     exact List.nodup_cons.mpr ⟨hk, hn⟩
    have hsb : (n :: lr).length ≤ l.length := by
     refine nodup_le hnd fun x hx => ?_
     rcases List.mem_cons.mp hx with rfl | hx
     ·exact hkl
     ·exact hsub x hx
    have := Sa1.le
    simp at hsb; lia
   ·have Sa2 : SetAt (skInt prog w) 7 h2 a l := keep_int Sa1 fun o e => (hs2.2 a har).trans e
    have hne2 : l2 ≠ [] := by
     have := (mem_added hl2 n).mpr (.inl rfl)
     rintro rfl; cases this
    refine wpAny_bind (size_setI (s := { s with heap := h2, toks := tk + 1 }) S2 ?_)
    refine wpAny_bind (size_setI (s := { s with heap := h2, toks := tk + 1 }) Sa2 ?_)
    have hkeep : OffKeep [I, r] s.heap h2 := fun b o hb e => by
     simp only [List.mem_cons, List.not_mem_nil, or_false, not_or] at hb
     exact (hs2.2 b hb.2).trans (hk1 b o (by simp [hb.1]) e)
    by_cases hge : l2.length ≥ l.length
    ·rw [if_pos hge]
     refine wpAny_bind (wpAny_rule (wpAny_pure ?_))
     exact hR h2 (tk + 1) l2 hkeep S2 ⟨fun _ => .inr ⟨n, by rw [hdrop]; simp, hkl⟩, fun _ => hne2⟩
    ·rw [if_neg hge]
     refine wpAny_pure ⟨plainId_quiet plain_inter_loop _, ih (i + 1) _ l2 (Nat.succ.inj ((sub_s hlt).symm.trans hk)) hlt (W.frame _ h1 h2 hst1 fun b hb o e => (hs2.2 b (fun q => hrfp (q ▸ hb))).trans e) Sa2 S2 (fun x hx => ?_) fun h3 tk3 l3 hk3 S3 hm3 => ?_⟩
     ·rcases (mem_added hl2 x).mp hx with rfl | q
      ·exact hkl
      ·exact hsub x q
     ·exact hR h3 tk3 l3 (fun b o hb e => hk3 b o hb (hkeep b o hb e)) S3 ⟨fun _ => .inr ⟨n, by rw [hdrop]; simp, hkl⟩, fun _ => hm3.mpr (.inl hne2)⟩
  ·rw [if_neg (fun q => hkl (ho.mp q))]
   refine wpAny_pure ⟨plainId_quiet plain_inter_loop _, ih (i + 1) _ lr (Nat.succ.inj ((sub_s hlt).symm.trans hk)) hlt hst1 Sa1 S1 hsub fun h3 tk3 l3 hk3 S3 hm3 => ?_⟩
   refine hR h3 tk3 l3 (fun b o hb e => hk3 b o hb (hk1 b o (by simp at hb; simp [hb.1]) e)) S3 ?_
   rw [hm3, hdrop]
   constructor
   ·rintro (q | ⟨x, hx, hxl⟩)
    ·exact .inl q
    ·exact .inr ⟨x, List.mem_cons_of_mem _ hx, hxl⟩
   ·rintro (q | ⟨x, hx, hxl⟩)
    ·exact .inl q
    ·rcases List.mem_cons.mp hx with rfl | hx
     ·exact absurd hxl hkl
     ·exact .inr ⟨x, hx, hxl⟩
theorem call_set_one {k : Int} {tk : Tok} {l : Addr} {c : Nat} {Q : Value -> Shared -> Prop} (hh : A.handled = none) (hu : A.units + 6 < cLine) (ho : s.heap.get? l = some (listO #[.int k tk] c))
  (h : ∀ h' tk' r o, (∀ b o, s.heap.get? b = some o -> h'.get? b = some o) -> s.heap.get? r = none -> h'.get? r = some o -> SetI prog w 7 o [k] -> Q (.ref r) { s with heap := h', toks := tk' }) :
  wpAny (model prog w) A (call (.type "set") [.ref l]) Q E s := by
 refine type_made (Q₁ := fun obj sz1 => obj = .ref s.heap.objs.size /\ sz1 = { s with heap := s.heap.push (setO #[] 0 (.fresh 0 0 (!byText w))) }) F.called_set (F.typeCall_set_1 _) (set_new_led (F.newCall_set_1 _) ⟨rfl, rfl⟩) fun obj sz1 hz1 => ?_
 refine x02 hz1 fun q97 q98 => ?_; subst q97; subst q98
 have hS : (s.heap.push (setO #[] 0 (.fresh 0 0 (!byText w)))).get? s.heap.objs.size = some (setO #[] 0 (.fresh 0 0 (!byText w))) := Heap.get?_push_size _ rfl
 have hT : Shared.TypeIs { s with heap := s.heap.push (setO #[] 0 (.fresh 0 0 (!byText w))) } (.ref s.heap.objs.size) "set" := ⟨_, hS, rfl⟩
 refine ⟨hT, codeAny_call_builtin F.called_set.init.plain F.entry_set_init (check_set_init_1 hT ?_)⟩
 have S0 : SetAt (skInt prog w) 7 (s.heap.push (setO #[] 0 (.fresh 0 0 (!byText w)))) s.heap.objs.size [] := fresh_set
 have hlS : l ≠ s.heap.objs.size := fun e => Nat.lt_irrefl _ (e ▸ Heap.lt_size ho)
 have hol : (s.heap.push (setO #[] 0 (.fresh 0 0 (!byText w)))).get? l = some (listO #[.int k tk] c) := Heap.get?_push_of_some _ ho
 have hTl : Shared.TypeIs { s with heap := s.heap.push (setO #[] 0 (.fresh 0 0 (!byText w))) } (.ref l) "list" := ⟨_, hol, rfl⟩
 have hl1 : (s.heap.push (setO #[] 0 (.fresh 0 0 (!byText w)))).IsList l #[.int k tk] := ⟨_, hol, rfl, c, rfl⟩
 have hkeep : ∀ b o, s.heap.get? b = some o -> (s.heap.push (setO #[] 0 (.fresh 0 0 (!byText w)))).get? b = some o := fun b o e => Heap.get?_push_of_some _ e
 have hfr := fresh_size s.heap
 generalize s.heap.push (setO #[] 0 (.fresh 0 0 (!byText w))) = H at *
 generalize s.heap.objs.size = r at *
 unfold Builtin.«set.__init__» noKeywords
 generalize hUF : updateFrom = UF
 wp_walk
 subst hUF
 unfold updateFrom
 refine wpAny_bind (anySet_no hTl sub_list_set sub_list_frozenset ?_)
 first | refine wpAny_ite_false (by first | rfl | simp) ?_ | refine wpBF (by first | rfl | simp) ?_
 refine wpAny_bind (wpAny_typeOf hTl ?_)
 rw [if_neg (by decide)]
 refine wpAny_bind (wpAny_pyIter_list hl1 ?_)
 refine wpAny_bind (wpAny_runValue ?_)
 have hI : ∀ b o, H.get? b = some o -> b ≠ H.objs.size := fun b o e => Nat.ne_of_lt (Heap.lt_size e)
 have hh3 : A.in1.in1.in1.handled = none := by simp [hh]
 have hk2 : ∀ b o, H.get? b = some o -> (H.push { cls := .type "list_iterator", data := .fields #[.ref l, .int 0 0] }).get? b = some o := fun b o e => Heap.get?_push_of_some _ e
 have hgI : (H.push { cls := .type "list_iterator", data := .fields #[.ref l, .int 0 0] }).get? H.objs.size = some { cls := .type "list_iterator", data := .fields #[.ref l, .int 0 0] } := Heap.get?_push_size _ rfl
 refine update_loop (A := A.in1.in1) (ns := [k]) (Walks.list hh3 H.objs.size l (hI _ _ hol) #[.int k tk]) (fun i v hv => intAt_of (items := #[.int k tk]) (.cons k tk .nil) i v hv) (by o_norm) (r := r)
  (by simp only [List.mem_cons, List.not_mem_nil, or_false, not_or]; exact ⟨hI _ _ hS, Ne.symm hlS⟩) 1 0 _ [] rfl (Nat.zero_le _) ⟨⟨_, hgI, rfl, rfl⟩, ⟨_, hk2 _ _ hol, rfl, c, rfl⟩⟩ (keep_int S0 fun o e => hk2 _ _ e) (fun m hm hmm => ?_) fun h' tk' lr' hk3 S3 hm3 => ?_
 ·have : m.length ≤ [k].length := nodup_le hm fun x hx => (hmm x hx).resolve_left (by simp)
  simp at this; lia
 ·refine wpAny_pure (wpAny_pure ⟨rfl, ?_⟩)
  refine x12 S3.toI fun o ho' SI => ?_
  have hlr : lr' = [k] := by
   have hp : lr'.Perm [k] := (List.perm_ext_iff_of_nodup SI.nodup (by simp)).mpr fun x => by rw [hm3]; simp
   exact List.perm_singleton.mp hp
  subst hlr
  refine h h' tk' r o (fun b o e => ?_) hfr ho' SI
  have hbr : b ≠ r := fun q => by rw [q, hfr] at e; cases e
  exact hk3 b o (by simp only [List.mem_cons, List.not_mem_nil, or_false, not_or]; exact ⟨hI _ _ (hkeep _ _ e), hbr⟩) (hk2 _ _ (hkeep _ _ e))
theorem walk_tup (hh : A.handled = none) {I a : Addr} {ns : List Int} {h : Heap} (hne : a ≠ I) (x : IsTI h ns a) :
  ∃ St, Walks prog w A I [I, a] [I] ns.length (IntAt ns) St /\ (∀ h', h'.IsTupleIter I a 0 -> (∀ o, h.get? a = some o -> h'.get? a = some o) -> St 0 h') /\ ∀ i h, St i h -> ∃ o, h.get? I = some o /\ o.cls ≠ .type "tuple" := by
 obtain ⟨o, items, n, ho, hc, hd, ts, hl, hi⟩ := x
 have hI : IntsAre items.toList ns := by
  rw [hi]
  clear hi hd
  induction ns generalizing ts with
  | nil => exact .nil
  | cons n ns ih =>
   cases ts with
   | nil => simp at hl
   | cons t ts => exact .cons n t (ih ts (by simpa using hl))
 have hlen : items.size = ns.length := by rw [← Array.length_toList]; exact ints_len hI
 have W := Walks.tuple (prog := prog) (w := w) hh I a hne items
 refine ⟨_, ⟨W.sub, W.frame, fun i s Q E hi st hQ => W.item i s Q E (by lia) st fun v h' tk hv => hQ v h' tk (intAt_of hI i v hv), fun s Q E st hQ => W.done s Q E (by rw [hlen]; exact st) hQ, W.self⟩, fun h' hit hk => ⟨hit, o, hk o ho, hc, n, hd⟩, fun i h st => ?_⟩
 refine x02 st fun q99 _ => ?_; refine x13 q99 fun oI h1 h2 _ => ?_
 exact ⟨oI, h1, by rw [h2]; decide⟩
theorem call_inter {a t : Addr} {l ns : List Int} {Q : Value -> Shared -> Prop} (hh : A.handled = none) (hu : A.units + 6 < cLine) (Sa : SetAt (skInt prog w) 7 s.heap a l) (ht : IsTI s.heap ns t)
  (h : ∀ h' tk' r o l', (∀ b o, s.heap.get? b = some o -> h'.get? b = some o) -> s.heap.get? r = none -> h'.get? r = some o -> SetI prog w 7 o l' -> (l' ≠ [] ↔ ∃ x ∈ ns, x ∈ l) -> Q (.ref r) { s with heap := h', toks := tk' }) :
  wpAny (model prog w) A (call (.builtin "set.intersection") [.ref a, .ref t]) Q E s := by
 refine wpAny_call_entry PySem.F.slot_set_intersection Sa.typeIs entry_set_intersection ?_ (F.args_set_intersection_2 _ _)
 unfold Builtin.«frozenset.intersection»
 refine wpAny_bind (m := manyOthers "intersection" _) (wpAny_pure (a := (a, [Value.ref t])) ?_)
 dsimp only
 first | refine wpAny_ite_false (by first | rfl | simp) ?_ | refine wpBF (by first | rfl | simp) ?_
 refine wpAny_bind ?_
 rw [List.forIn_cons]
 refine wpAny_bind (wpAny_bind (wpAny_holding ?_))
 refine wpAny_bind (m := addrOf (.ref a)) (wpAny_pure (a := a) ?_)
 unfold intersection
 have hat : a ≠ t := by
  rintro rfl
  refine x13 Sa.cls fun o ho hc _ => ?_
  refine x33 ht fun o' _ _ ho' hc' _ => ?_
  rw [ho] at ho'; cases ho'
  rw [hc] at hc'; exact absurd hc' (by decide)
 have hne : (Value.ref t == Value.ref a) = false := by simpa using Ne.symm hat
 rw [hne]
 first | refine wpAny_ite_false (by first | rfl | simp) ?_ | refine wpBF (by first | rfl | simp) ?_
 unfold baseOf
 refine wpAny_bind (wpAny_bind (wpAny_isInstance Sa.typeIs sub_set_set ?_))
 simp only [if_true]
 refine wpAny_pure ?_
 refine wpAny_bind (newSet_at (sk := skInt prog w) (lim := 7) (by decide) fun SR => ?_)
 have keep0 : ∀ c o, s.heap.get? c = some o -> (s.heap.push (setO #[] 0 (.fresh 0 0 (!byText w)))).get? c = some o := fun c o e => Heap.get?_push_of_some _ e
 refine wpAny_bind (m := addrOf (.ref s.heap.objs.size)) (wpAny_pure (a := s.heap.objs.size) ?_)
 have hfr := fresh_size s.heap
 generalize s.heap.push (setO #[] 0 (.fresh 0 0 (!byText w))) = H at *
 generalize s.heap.objs.size = r at *
 have hTt : Shared.TypeIs { s with heap := H } (.ref t) "tuple" := x33 (ht) fun o _ _ ho hc _ => ⟨o, keep0 _ _ ho, hc⟩
 refine wpAny_bind (wpAny_holding ?_)
 refine wpAny_bind (anySet_no hTt sub_tuple_set sub_tuple_frozenset ?_)
 first | refine wpAny_ite_false (by first | rfl | simp) ?_ | refine wpBF (by first | rfl | simp) ?_
 have htt : ∃ items, H.IsTuple t items := let ⟨o, items, n, ho, hc, hd, _⟩ := ht; ⟨items, o, keep0 _ _ ho, hc, n, hd⟩
 refine x11 htt fun items htt => ?_
 refine wpAny_bind (wpAny_pyIter_tuple htt ?_)
 refine wpAny_bind (wpAny_runValue ?_)
 have hI : ∀ b o, H.get? b = some o -> b ≠ H.objs.size := fun b o e => Nat.ne_of_lt (Heap.lt_size e)
 have hk2 : ∀ b o, H.get? b = some o -> (H.push { cls := .type "tuple_iterator", data := .fields #[.ref t, .int 0 0] }).get? b = some o := fun b o e => Heap.get?_push_of_some _ e
 have hgI : (H.push { cls := .type "tuple_iterator", data := .fields #[.ref t, .int 0 0] }).get? H.objs.size = some { cls := .type "tuple_iterator", data := .fields #[.ref t, .int 0 0] } := Heap.get?_push_size _ rfl
 refine x12 SR.cls fun oR hoR _ => ?_
 refine x12 Sa.cls fun oa hoa _ => ?_
 have ht9 := ht
 refine x32 ht9 fun ot ht1 ht2 ht3 _ => ?_
 have hrt : r ≠ t := Ne.symm (fun q => by rw [q, hfr] at ht3; cases ht3)
 have har : a ≠ r := fun q => by rw [q, hfr] at hoa; cases hoa
 have htI : t ≠ H.objs.size := hI _ _ (keep0 _ _ ht3)
 have hh3 : A.in1.in1.handled = none := by simp [hh]
 refine x13 (walk_tup (prog := prog) (w := w) hh3 (I := H.objs.size) htI (IsTI.keep ht fun o e => keep0 _ _ e)) fun St W hst0 _ => ?_
 refine inter_loop (A := A.in1) (l := l) (ns := ns) (a := a) (r := r) W (fun _ _ h => h) (by o_norm) har (hI _ _ (keep0 _ _ hoa)) (by simp only [List.mem_cons, List.not_mem_nil, or_false, not_or]; exact ⟨hI _ _ hoR, hrt⟩) ns.length 0 _ [] (by lia) (Nat.zero_le _)
  (hst0 _ ⟨_, hgI, rfl, rfl⟩ fun o e => hk2 _ _ e) (keep_int Sa fun o e => hk2 _ _ (keep0 _ _ e)) (keep_int SR fun o e => hk2 _ _ e) (by simp) fun h' tk' l' hk3 S3 hm3 => ?_
 refine wpAny_pure (wpAny_pure ?_)
 refine wpAny_pure ?_
 dsimp only
 rw [List.forIn_nil]
 refine wpAny_pure (wpAny_pure ⟨_, rfl, ?_⟩)
 refine x12 S3.toI fun o ho' SI => ?_
 refine h h' tk' r o l' (fun b o e => ?_) hfr ho' SI (by rw [hm3]; simp)
 have hbr : b ≠ r := fun q => by rw [q, hfr] at e; cases e
 exact hk3 b o (by simp only [List.mem_cons, List.not_mem_nil, or_false, not_or]; exact ⟨hI _ _ (keep0 _ _ e), hbr⟩) (hk2 _ _ (keep0 _ _ e))
end
end
section
open PySem PySem.W PyProof.Rows PySem.Calls PySem.Spec
open PySem.SetTable PySem.Builtin.Frozenset
theorem noBool_set : typeLookup (.type "set") "__bool__" = pure none := by rw [typeLookup_type, builtinLookup_eq_fast]; kernel_rfl
section
variable {prog : Program} {w : World} {A : Around} {E : Value -> Shared -> Prop} {s : Shared} {a : Addr} {l : List Int}
theorem truthy_setO {es : Array (Int × Value)} {ep : Nat} {t : SetTable} {Q : Bool -> Shared -> Prop} (ho : s.heap.get? a = some (setO es ep t)) (hf : t.fits es.size = true) (hle : es.size ≤ 18) (h : ∀ tk, Q (!es.isEmpty) { s with toks := tk }) : wpAny (model prog w) A (truthy (.ref a)) Q E s := by
 have hT : s.TypeIs (.ref a) "set" := ⟨_, ho, rfl⟩
 have hne : ((es.size : Int) != 0) = !es.isEmpty := by
  unfold Array.isEmpty
  rcases Nat.eq_zero_or_pos es.size with e | e
  ·rw [e]; rfl
  ·have h2 : es.size ≠ 0 := by lia
   have h1 : ((es.size : Int) != 0) = true := bne_iff_ne.mpr (by lia)
   rw [h1, decide_eq_false h2]; rfl
 have key : wpAny (model prog w) A (runValue (.builtin "len" ⟨[.ref a], []⟩)) (fun r s' => r = .int es.size (s.toks + 1) /\ Q (!es.isEmpty) s') E s := by
  refine wpAny_runValue (codeAny_builtin entry_len ?_)
  rw [Around.under_plainId plain_len _]
  exact wpAny_mono (wpAny_len_body_set (Q := fun r s' => r = .int es.size (s.toks + 1) /\ Q (!es.isEmpty) s') ho (setO_exact es ep t) rfl hf (by lia) ⟨rfl, h _⟩)
   (fun fin s' h' => by refine x12 h' fun r q910 hq => ?_; subst q910; exact hq) fun _ _ e => e
 unfold truthy
 first
  | refine wpAny_bind (wpAny_callSpecial?_none (name := Str.ofString "__bool__") hT noBool_set ?_)
  | refine wpAny_bind (wpAny_pure (wpAny_bind (wpAny_callSpecial?_none (name := Str.ofString "__bool__") hT noBool_set ?_)))
 first
  | refine wpAny_bind (wpAny_specialOf (name := Str.ofString "__len__") hT PySem.F.slot_set_len.lookup ?_)
  | refine wpAny_bind (wpAny_pure (wpAny_bind (wpAny_specialOf (name := Str.ofString "__len__") hT PySem.F.slot_set_len.lookup ?_)))
 first
  | exact wpAny_bind (wpAny_mono key (fun r s' h' => by refine x02 h' fun q911 hq => ?_; subst q911; exact wpAny_pure (hne ▸ hq)) fun _ _ e => e)
  | exact wpAny_bind (wpAny_pure (wpAny_bind (wpAny_mono key (fun r s' h' => by obtain ⟨rfl, hq⟩ := h'; exact wpAny_pure (hne ▸ hq)) fun _ _ e => e)))
theorem meets_bool_set (a : Addr) (es : Array (Int × Value)) (ep : Nat) (t : SetTable) (hf : t.fits es.size = true) (hle : es.size ≤ 18) :
  Meets (Builtin.«bool.__new__» ⟨[.type "bool", .ref a], []⟩) (fun _ R s => s.heap.get? a = some (setO es ep t) /\ ∀ tk, R (.ok (.ret (.bool (!es.isEmpty)))) { s with toks := tk }) :=
 Meets.of_wp fun prog w A R s hs => by
  obtain ⟨hp, g, d, tk, os⟩ := s
  refine x02 hs fun ho hs => ?_
  have f1 := F.conv_sub_bool
  repeat (any_goals (first | assumption | (with_reducible refine truthy_setO ho hf hle ?_) | wp_step))
  all_goals first | exact fun tk => ⟨_, rfl, hs _⟩ | exact ⟨_, rfl, hs _⟩ | (intro tk; exact wpAny_pure ⟨_, rfl, hs _⟩)
theorem call_bool_set {Q : Value -> Shared -> Prop} (S : SetAt (skInt prog w) 7 s.heap a l) (h : ∀ tk, Q (.bool (!l.isEmpty)) { s with toks := tk }) : wpAny (model prog w) A (call (.type "bool") [.ref a]) Q E s := by
 have hle := S.le
 refine x44 S.obj fun o es ep t ho q913 hsz hf => ?_; subst q913
 have e : es.isEmpty = l.isEmpty := by
  unfold Array.isEmpty
  rw [hsz]
  cases l <;> simp
 refine call_bool_1 (meets_bool_set a es ep t hf (by lia)) ⟨ho, fun tk => ?_⟩
 rw [e]
 exact ⟨rfl, h tk⟩
end
theorem tuple_of_list {prog : Program} {w : World} {A : Around} {E : Value -> Shared -> Prop} {s : Shared} {l : Addr} {arr : Array Value} {c : Nat} {ns : List Int} {Q : Value -> Shared -> Prop} (ho : s.heap.get? l = some (listO arr c)) (hI : IntsAre arr.toList ns) (hsz : arr.size ≤ sizeLine)
  (h : ∀ h' r, (∀ b o, s.heap.get? b = some o -> h'.get? b = some o) -> s.heap.get? r = none -> IsTI h' ns r -> Q (.ref r) { s with heap := h' }) : wpAny (model prog w) A (call (.type "tuple") [.ref l]) Q E s := by
 refine call_tuple_list (isList_listO ho) (fun h' hk => ?_) hsz
 refine h _ _ (fun b o e => Heap.get?_push_of_some _ (hk b o e)) ?_ ⟨_, arr, 0, Heap.get?_push_size _ rfl, rfl, rfl, ?_⟩
 ·cases e : s.heap.get? h'.objs.size with
  | none => rfl
  | some o => exact absurd (Heap.lt_size (hk _ _ e)) (Nat.lt_irrefl _)
 ·generalize arr.toList = vs at *
  clear ho hsz h
  induction hI with
  | nil => exact ⟨[], rfl, rfl⟩
  | cons n t _ ih =>
   refine x12 ih fun ts h1 h2 => ?_
   exact ⟨t :: ts, by simp [h1], by simp [h2]⟩
end
-- NfaD
section
open PySem PySem.W PyProof.Rows PySem.Calls
structure NfaAt (prog : Program) (w : World) (hz0 hq h : Heap) (x : Addr) (i : Int) (Ar : Int -> Str -> Int -> Prop) (Fin : Int -> Prop) (dx t f : Addr) (t1 t2 t3 ti : Tok) (n : Nat) : Prop where
 ox : h.get? x = some (instObj 229 dx)
 od : h.get? dx = some (nfaD w t f (.int i ti) t1 t2 t3 n)
 x0 : hz0.get? x = none
 d0 : hz0.get? dx = none
 sub : ∀ b o, hq.get? b = some o -> h.get? b = some o
 qx : hq.get? x = none
 qd : hq.get? dx = none
 T : TrRel prog w hq t Ar
 S : ∃ lf, SetAt (skInt prog w) 7 hq f lf /\ ∀ a, a ∈ lf ↔ Fin a
section
variable {prog : Program} {w : World} {hz0 hq h h' : Heap} {x dx t f : Addr} {i : Int} {Ar : Int -> Str -> Int -> Prop} {Fin : Int -> Prop} {t1 t2 t3 ti : Tok} {n : Nat}
theorem NfaAt.led (V : NfaAt prog w hz0 hq h x i Ar Fin dx t f t1 t2 t3 ti n) : ∀ q ∈ [(x, instObj 229 dx), (dx, nfaD w t f (.int i ti) t1 t2 t3 n)], h.get? q.1 = some q.2 /\ hz0.get? q.1 = none := by
 intro q hq'
 simp only [List.mem_cons, List.not_mem_nil, or_false] at hq'
 rcases hq' with rfl | rfl
 ·exact ⟨V.ox, V.x0⟩
 ·exact ⟨V.od, V.d0⟩
theorem NfaAt.ledT (_V : NfaAt prog w hz0 hq h x i Ar Fin dx t f t1 t2 t3 ti n) : ∀ q ∈ [(x, instObj 229 dx), (dx, nfaD w t f (.int i ti) t1 t2 t3 n)], q.2.cls ≠ .type "tuple" := by
 intro q hq'
 simp only [List.mem_cons, List.not_mem_nil, or_false] at hq'
 rcases hq' with rfl | rfl
 ·show (Value.ref 229) ≠ _; decide
 ·show (Value.type "dict") ≠ _; decide
theorem NfaAt.ledQ (V : NfaAt prog w hz0 hq h x i Ar Fin dx t f t1 t2 t3 ti n) : ∀ q ∈ [(x, instObj 229 dx), (dx, nfaD w t f (.int i ti) t1 t2 t3 n)], hq.get? q.1 = none := by
 intro q hq'
 simp only [List.mem_cons, List.not_mem_nil, or_false] at hq'
 rcases hq' with rfl | rfl
 ·exact V.qx
 ·exact V.qd
end
theorem none_sub {h g : Heap} {a : Addr} (k : ∀ b o, h.get? b = some o -> g.get? b = some o) (e : g.get? a = none) : h.get? a = none := by
 cases q : h.get? a with
 | none => rfl
 | some o => rw [k _ _ q] at e; cases e
theorem news_hitO {g h h' : Heap} {L a : Addr} {m : Str -> Option Value} {o o' : Obj} {pre post : List (Addr × Obj)} (F : Fr g L h m) (N : News g L h (pre ++ (a, o) :: post)) (h1 : ∀ p ∈ pre, p.1 ≠ a) (h2 : ∀ p ∈ post, p.1 ≠ a)
  (hk : OffKeep [a] h h') (ho : h'.get? a = some o') : Fr g L h' m /\ News g L h' (pre ++ (a, o') :: post) := by
 have D := N (a, o) (by simp)
 refine ⟨fr_off F (fun d hd => by simp at hd; subst hd; exact ⟨D.2.1, D.2.2⟩) hk, fun p hp => ?_⟩
 rcases List.mem_append.mp hp with q | q
 ·have P := N p (List.mem_append_left _ q); exact ⟨hk _ _ (by simpa using h1 p q) P.1, P.2⟩
 ·rcases List.mem_cons.mp q with rfl | q
  ·exact ⟨ho, D.2⟩
  ·have P := N p (List.mem_append_right _ (.tail _ q)); exact ⟨hk _ _ (by simpa using h2 p q) P.1, P.2⟩
theorem NfaAt.now {prog : Program} {w : World} {hz0 hq h g h' : Heap} {L : Addr} {m : Str -> Option Value} {x dx t f : Addr} {i : Int} {Ar : Int -> Str -> Int -> Prop} {Fin : Int -> Prop} {t1 t2 t3 ti : Tok} {n : Nat} {news : List (Addr × Obj)} (V : NfaAt prog w hz0 hq h x i Ar Fin dx t f t1 t2 t3 ti n)
  (F : Fr g L h' m) (N : News g L h' news) (subg : ∀ b o, hq.get? b = some o -> g.get? b = some o) (hx : (x, instObj 229 dx) ∈ news) (hd : (dx, nfaD w t f (.int i ti) t1 t2 t3 n) ∈ news) : NfaAt prog w hz0 hq h' x i Ar Fin dx t f t1 t2 t3 ti n :=
 ⟨N.get hx, N.get hd, V.x0, V.d0, fun b o e => F.keep _ _ (subg b o e), V.qx, V.qd, V.T, V.S⟩
theorem dictAt_new {prog : Program} {w : World} {K K' : Type} [DecidableEq K] [DecidableEq K'] {dk : DKind prog w K} {knd : KeyKind prog w K'} {h : Heap} {d : Addr} {o : Obj} (ho : h.get? d = some o) (hd : o.IsDictOf knd []) (hs : (d == sysModules) = false) : DictAt dk h d [] := by
 refine x25 hd fun es ep q91 hdt _ hp _ => ?_; refine x03 q91 fun c1 c2 c3 => ?_
 obtain ⟨cls, dict, data, slots⟩ := o
 simp only at c1 c2 c3 hdt
 subst c1; subst c2; subst c3; subst hdt
 have he : es = #[] := by
  have := hp.length
  exact Array.toList_inj.mp (List.eq_nil_of_length_eq_zero (by simpa using this))
 subst he
 exact ⟨by simpa using hs, #[], ep, ho, .nil, List.nodup_nil⟩
structure Small (U : Int -> Prop) (i : Int) (Ar : Int -> Str -> Int -> Prop) : Prop where
 len : ∀ m : List Int, m.Nodup -> (∀ k ∈ m, U k) -> m.length ≤ 7
 init : U i
 arc : ∀ a lab b, Ar a lab b -> U b
end
-- LoopT
section
open PySem PySem.W PyProof.Rows PySem.Calls
section
variable {prog : Program} {w : World} {A : Around} {E : Value -> Shared -> Prop} {s : Shared} {env : Env} {g : Heap} {Q : Flow -> Shared -> Prop} {target : Expr} {body : List Stmt}
theorem L_ne_tup {L st : Addr} {ns : List Int} {h : Heap} {m : Str -> Option Value} {g : Heap} (F : Fr g L h m) (ht : IsTI h ns st) : L ≠ st := by
 rintro rfl
 refine x33 F.ns fun oL es ep hL hd _ => ?_
 refine x34 ht fun o items n ho _ hd' _ => ?_
 rw [hL] at ho; cases ho
 rw [hd] at hd'; cases hd'
theorem keep_all {x dx : Addr} {o1 o2 : Obj} {h g h' : Heap} {L : Addr} {m : Str -> Option Value} {news : List (Addr × Obj)} (F : Fr g L h' m) (N : News g L h' news) (Hg : ∀ b o, h.get? b = some o -> b ∉ [(x, o1), (dx, o2)].map (·.1) -> g.get? b = some o) {g' : Heap} (hN : ∀ q ∈ [(x, o1), (dx, o2)], h.get? q.1 = some q.2 /\ g'.get? q.1 = none)
  (m1 : (x, o1) ∈ news) (m2 : (dx, o2) ∈ news) : ∀ b o, h.get? b = some o -> h'.get? b = some o := fun b o e =>
 off_end (D := []) F Hg (fun q hq => (hN q hq).1) (by
  refine all2 ?_ ?_
  ·exact .inr (N.get m1)
  ·exact .inr (N.get m2)) b o (by simp) e
theorem iter_tup {ns : List Int} {st : Addr} {m : Str -> Option Value} {news : List (Addr × Obj)} (J : Nat -> (Str -> Option Value) -> List (Addr × Obj) -> Heap -> Prop) (ht : IsTI g ns st) (hh : A.handled = none) (F : Fr g env.locals s.heap m) (N : News g env.locals s.heap news) (h0 : J 0 m news s.heap)
  (stable : ∀ i m news h h', J i m news h -> TupKeep h h' -> J i m news h')
  (step : ∀ I i k tv mz1 news1 hz1 tk dr own, ns[i]? = some k -> J i mz1 news1 hz1 -> (∀ p ∈ news1, p.1 ∉ [I, st]) -> (∀ p ∈ own, p.1 ∈ [I, st]) -> Fr g env.locals hz1 mz1 -> News g env.locals hz1 (news1 ++ own) ->
   wpAny (model prog w) A (assign target env (.int k tv)) (fun _ sz3 => wpAny (model prog w) A (execs body env) (StepMy g env.locals [I, st] own s (J (i + 1)) Q) noE sz3) noE { s with heap := hz1, toks := tk, drawn := dr })
  (fin : ∀ mz1 news1 hz1 tk dr, J ns.length mz1 news1 hz1 -> Fr g env.locals hz1 mz1 -> News g env.locals hz1 news1 -> Q .next { s with heap := hz1, toks := tk, drawn := dr }) :
  wpAny (model prog w) A (pyIter (.ref st)) (fun it sz2 => Chu2 (LoopMy prog w A g env target body Q) it sz2) E s := by
 have hts : IsTI s.heap ns st := ht.keep fun o e => F.keep _ _ e
 have htt : ∃ items, s.heap.IsTuple st items := x34 (hts) fun o items n ho hc hd _ => ⟨items, o, ho, hc, n, hd⟩
 refine x11 htt fun items htt => ?_
 refine wpAny_pyIter_tuple htt ?_
 have hI : ∀ b o, s.heap.get? b = some o -> b ≠ s.heap.objs.size := fun b o e => Nat.ne_of_lt (Heap.lt_size e)
 have hk2 : ∀ b o, s.heap.get? b = some o -> (s.heap.push { cls := .type "tuple_iterator", data := .fields #[.ref st, .int 0 0] }).get? b = some o := fun b o e => Heap.get?_push_of_some _ e
 have hgI : (s.heap.push { cls := .type "tuple_iterator", data := .fields #[.ref st, .int 0 0] }).get? s.heap.objs.size = some { cls := .type "tuple_iterator", data := .fields #[.ref st, .int 0 0] } := Heap.get?_push_size _ rfl
 refine hidG fun GG hGG => ?_
 refine x32 (id hts) fun ot _ _ hot _ => ?_
 refine x32 (id ht) fun otg _ _ hotg _ => ?_
 refine x13 (walk_tup (prog := prog) (w := w) hh (I := s.heap.objs.size) (hI _ _ hot) hts) fun St W hst0 hcI => ?_
 refine hGG ?_
 have hgfr := (fresh_off F (fresh_size s.heap))
 refine (fun _ k9 => k9 s.heap.objs.size ([s.heap.objs.size, st]) ns.length (IntAt ns) St m news J W ?_ hgfr.2 hcI ?_ (hst0 _ ⟨_, hgI, rfl, rfl⟩ fun o e => hk2 _ _ e) (fr_stay F hk2) (news_stay N hk2) (stable _ _ _ _ _ h0 fun b o e _ => hk2 b o e) (fun i m news h h' hJ _ _ tk => stable _ _ _ _ _ hJ tk) ?_ ?_)
 ·simp only [List.mem_cons, List.not_mem_nil, or_false, not_or]
  exact ⟨fun q => hgfr.1 q.symm, L_ne_tup F hts⟩
 ·intro p hp
  simp only [List.mem_cons, List.not_mem_nil, or_false, not_or]
  refine ⟨fun q => ?_, fun q => ?_⟩
  ·exact hI _ _ (N p hp).1 q
  ·have := (N p hp).2.2; rw [q, hotg] at this; cases this
 ·rintro i v mz1 news1 hz1 tk dr own hi q83 hJ hnf hown F1 N1 _; refine x22 q83 fun k tv hk q84 => ?_; subst q84
  exact step _ i k tv mz1 news1 hz1 tk dr own hk hJ hnf hown F1 N1
 ·exact fun mz1 news1 hz1 tk dr hJ F1 N1 => fin mz1 news1 hz1 tk dr hJ F1 N1
end
end
-- AllOf
section
open PySem PySem.W PyProof.Rows PySem.Calls
open Classical in
noncomputable def allOf (g : Heap) (L : Addr) (D : List Addr) (h : Heap) : List (Addr × Obj) :=
 (List.range h.objs.size).filterMap fun b => if g.get? b = none /\ b ≠ L /\ b ∉ D then (h.get? b).map fun o => (b, o) else none
theorem mem_allOf {g h : Heap} {L : Addr} {D : List Addr} {b : Addr} {o : Obj} : (b, o) ∈ allOf g L D h ↔ h.get? b = some o /\ g.get? b = none /\ b ≠ L /\ b ∉ D := by
 unfold allOf
 rw [List.mem_filterMap]
 constructor
 ·rintro ⟨a, _, e⟩
  split at e
  ·rename_i hc
   cases q : h.get? a with
   | none => rw [q] at e; cases e
   | some o' =>
    rw [q] at e
    simp only [Option.map_some, Option.some.injEq, Prod.mk.injEq] at e
    obtain ⟨rfl, rfl⟩ := e
    exact ⟨q, hc⟩
  ·cases e
 ·rintro q84; refine x02 q84 fun e hc => ?_
  exact ⟨b, List.mem_range.mpr (Heap.lt_size e), by rw [if_pos hc, e]; rfl⟩
theorem news_allOf {g h : Heap} {L : Addr} {D : List Addr} : News g L h (allOf g L D h) := fun p hp => by
 obtain ⟨b, o⟩ := p
 refine x04 (mem_allOf.mp hp) fun e h1 h2 _ => ?_
 exact ⟨e, h2, h1⟩
theorem all_keep {g h h' : Heap} {L : Addr} {D : List Addr} {m m' : Str -> Option Value} {front : List (Addr × Obj)} (F : Fr g L h m) (F' : Fr g L h' m') (N' : News g L h' (front ++ allOf g L D h)) {b : Addr} {o : Obj} (hL : b ≠ L) (hD : b ∉ D) (e : h.get? b = some o) : h'.get? b = some o := by
 cases q : g.get? b with
 | some o' =>
  have := F.keep _ _ q
  rw [e] at this; cases this
  exact F'.keep _ _ q
 | none => exact (N' (b, o) (List.mem_append_right _ (mem_allOf.mpr ⟨e, q, hL, hD⟩))).1
theorem tail_keep {g h : Heap} {L : Addr} {m : Str -> Option Value} {front : List (Addr × Obj)} (F : Fr g L h m) (N : News g L h front) {h' : Heap} {m' : Str -> Option Value} (F' : Fr g L h' m') (N' : News g L h' (front ++ allOf g L (front.map (·.1)) h)) :
  ∀ b o, b ≠ L -> h.get? b = some o -> h'.get? b = some o := fun b o hL e => by
 by_cases q : b ∈ front.map (·.1)
 ·refine x12 (List.mem_map.mp q) fun p hp q93 => ?_; subst q93
  rw [(N p hp).1] at e; cases e
  exact (N' p (List.mem_append_left _ hp)).1
 ·exact all_keep F F' N' hL q e
theorem news_all {g h : Heap} {L : Addr} {front : List (Addr × Obj)} (N : News g L h front) : News g L h (front ++ allOf g L (front.map (·.1)) h) := News.append N news_allOf
theorem news_front {g h : Heap} {L : Addr} {front tl : List (Addr × Obj)} (N : News g L h (front ++ tl)) : News g L h front := fun p hp => N p (List.mem_append_left _ hp)
end
-- IterL
section
open PySem PySem.W PyProof.Rows PySem.Calls
section
variable {prog : Program} {w : World} {A : Around} {E : Value -> Shared -> Prop} {s : Shared} {env : Env} {g : Heap} {Q : Flow -> Shared -> Prop} {target : Expr} {body : List Stmt}
end
theorem strs_get {out : Array Value} {ls : List Str} (h : StrsAre out.toList ls) : ∀ (i : Nat) (v : Value), out[i]? = some v -> ∃ x t, ls[i]? = some x /\ v = .str x t := by
 intro i v hv
 have hv' : out.toList[i]? = some v := by rw [Array.getElem?_toList]; exact hv
 clear hv
 generalize out.toList = vs at *
 induction h generalizing i with
 | nil => simp at hv'
 | cons n t _ ih =>
  cases i with
  | zero => simp at hv'; exact ⟨n, t, by simp, hv'.symm⟩
  | succ i =>
   refine x22 (ih i (by simpa using hv')) fun m t' h1 h2 => ?_
   exact ⟨m, t', by simpa using h1, h2⟩
theorem strs_len {vs : List Value} {ls : List Str} (h : StrsAre vs ls) : vs.length = ls.length := by
 induction h with
 | nil => rfl
 | cons _ _ _ ih => exact congrArg Nat.succ ih
end
-- Loop2
section
open PySem PySem.W PyProof.Rows PySem.Calls PySem.Spec
section
variable {prog : Program} {w : World} {A : Around} {s : Shared} {env : Env} {g : Heap} {Q : Flow -> Shared -> Prop}
structure WalkG (prog : Program) (w : World) (A : Around) (target : Expr) (I : Addr) (fp : List Addr) (n : Nat) (P : Nat -> Value -> Heap -> Prop) (St : Nat -> Heap -> Prop) : Prop where
 self : I ∈ fp
 frame : ∀ i h h', St i h -> (∀ b ∈ fp, ∀ o, h.get? b = some o -> h'.get? b = some o) -> St i h'
 cls : ∀ i h, St i h -> ∃ o, h.get? I = some o /\ o.cls ≠ .type "tuple"
 item : ∀ i (s : Shared) (Q : Value -> Shared -> Prop), i < n -> St i s.heap ->
  (∀ v h' tk, P i v h' -> St (i + 1) h' -> (∀ b o, b ≠ I -> s.heap.get? b = some o -> h'.get? b = some o) -> Q v { s with heap := h', toks := tk }) ->
  wpAny (model prog w) A (pyNext (.ref I)) (fun r sz1 => match r with
   | none => False
   | some v => wpAny (model prog w) A (letOwnedTupleGo target (.ref I) v) (fun _ sz2 => Q v sz2) noE sz1) noE s
 done : ∀ (s : Shared) (Q : Option Value -> Shared -> Prop), St n s.heap ->
  (∀ h' tk, (∀ b o, b ≠ I -> s.heap.get? b = some o -> h'.get? b = some o) -> Q none { s with heap := h', toks := tk }) -> wpAny (model prog w) A (pyNext (.ref I)) Q noE s
theorem WalkG.of_walks {target : Expr} {I : Addr} {fp : List Addr} {n : Nat} {P : Nat -> Value -> Prop} {St : Nat -> Heap -> Prop} (W : Walks prog w A I fp [I] n P St)
  (hc : ∀ i h, St i h -> ∃ o, h.get? I = some o /\ o.cls ≠ .type "tuple") (ht : ∀ (it v : Value), letOwnedTupleGo target it v = pure ()) : WalkG prog w A target I fp n (fun i v _ => P i v) St where
 self := W.sub _ (List.mem_singleton.mpr rfl)
 frame := W.frame
 cls := hc
 item := fun i s Q hi hst hQ => W.item i s _ _ hi hst fun v h' tk hP hst' hk => by
  show wpAny _ _ (letOwnedTupleGo _ _ _) _ _ _
  rw [ht]
  exact wpAny_pure (hQ v h' tk hP hst' fun b o hb e => hk b o (fun q => hb (List.mem_singleton.mp q)) e)
 done := fun s Q hst hQ => W.done s Q _ hst fun h' tk hk => hQ h' tk fun b o hb e => hk b o (fun q => hb (List.mem_singleton.mp q)) e
theorem WalkG.obj {target : Expr} {I r : Addr} {o₀ : Obj} {fp : List Addr} {n : Nat} {P : Nat -> Value -> Heap -> Prop} {St : Nat -> Heap -> Prop} (W : WalkG prog w A target I fp n P St) (hr : r ∈ fp) (hne : r ≠ I) : WalkG prog w A target I fp n P (fun i h => St i h /\ h.get? r = some o₀) where
 self := W.self
 frame := fun i h h' q87 k => x02 q87 fun a b => ⟨W.frame i h h' a k, k r hr _ b⟩
 cls := fun i h q88 => x02 q88 fun a _ => W.cls i h a
 item := fun i s Q hi q89 hQ => x02 q89 fun a b => W.item i s Q hi a fun v h' tk hP hst hk => hQ v h' tk hP ⟨hst, hk r _ hne b⟩ hk
 done := fun s Q q810 hQ => x02 q810 fun a _ => W.done s Q a hQ
noncomputable def NextG (g : Heap) (L : Addr) (fp : List Addr) (own : List (Addr × Obj)) (ge : Array GenState) (os : OsState) (J : (Str -> Option Value) -> List (Addr × Obj) -> Prop) (G9 : Shared -> Prop) : Prop :=
 ∀ (h : Heap) (tk : Nat) (dr : Drawn) (m : Str -> Option Value) (news : List (Addr × Obj)), Fr g L h m -> News g L h (news ++ own) -> (∀ p ∈ news, p.1 ∉ fp) -> J m news -> G9 { heap := h, gens := ge, drawn := dr, toks := tk, os := os }
noncomputable def StepG (g : Heap) (L : Addr) (fp : List Addr) (own : List (Addr × Obj)) (sz2 : Shared) (J : (Str -> Option Value) -> List (Addr × Obj) -> Prop) (Q : Flow -> Shared -> Prop) (f : Flow) (s' : Shared) : Prop :=
 match f with
 | .ret v => Q (.ret v) s'
 | .brk => Q .next s'
 | _ => Chu (NextG g L fp own sz2.gens sz2.os J) s'
theorem stepG_hide {α : Type} {c : Sem α} {body : List Stmt} {L : Addr} {fp : List Addr} {own : List (Addr × Obj)} {sz2 st : Shared} {J : (Str -> Option Value) -> List (Addr × Obj) -> Prop}
  (h : ∀ G : Flow -> Shared -> Prop, (∀ h tk dr m news, Fr g L h m -> News g L h (news ++ own) -> (∀ p ∈ news, p.1 ∉ fp) -> J m news -> G .next { sz2 with heap := h, toks := tk, drawn := dr }) -> wpAny (model prog w) A c (fun _ sz3 => wpAny (model prog w) A (execs body env) G noE sz3) noE st) :
  wpAny (model prog w) A c (fun _ sz3 => wpAny (model prog w) A (execs body env) (StepG g L fp own sz2 J Q) noE sz3) noE st := h _ fun h tk dr m news F N na j _ k9 => k9 h tk dr m news F N na j
theorem stepG_hideC {α : Type} {c : Sem α} {body : List Stmt} {L : Addr} {fp : List Addr} {own : List (Addr × Obj)} {sz2 st : Shared} {J : (Str -> Option Value) -> List (Addr × Obj) -> Prop}
  (h : ∀ G : Flow -> Shared -> Prop, (∀ h tk dr m news, Fr g L h m -> News g L h (news ++ own) -> (∀ p ∈ news, p.1 ∉ fp) -> J m news -> G .next { sz2 with heap := h, toks := tk, drawn := dr }) -> (∀ h tk dr m news, Fr g L h m -> News g L h (news ++ own) -> (∀ p ∈ news, p.1 ∉ fp) -> J m news -> G .cont { sz2 with heap := h, toks := tk, drawn := dr }) -> wpAny (model prog w) A c (fun _ sz3 => wpAny (model prog w) A (execs body env) G noE sz3) noE st) :
  wpAny (model prog w) A c (fun _ sz3 => wpAny (model prog w) A (execs body env) (StepG g L fp own sz2 J Q) noE sz3) noE st := h _ (fun h tk dr m news F N na j _ k9 => k9 h tk dr m news F N na j) (fun h tk dr m news F N na j _ k9 => k9 h tk dr m news F N na j)
noncomputable def StepK (K : Shared -> Prop) (Q : Flow -> Shared -> Prop) (f : Flow) (s' : Shared) : Prop :=
 match f with
 | .ret v => Q (.ret v) s'
 | .brk => Q .next s'
 | _ => K s'
noncomputable def LoopG (prog : Program) (w : World) (A : Around) (g : Heap) (env : Env) (target : Expr) (body : List Stmt) (Q : Flow -> Shared -> Prop) (G9 : Value -> Shared -> Prop) : Prop := ∀ {sz2 : Shared} (I : Addr) (fp : List Addr) (n : Nat) (P : Nat -> Value -> Heap -> Prop) (St : Nat -> Heap -> Prop) (m : Str -> Option Value) (news : List (Addr × Obj)) (J : Nat -> (Str -> Option Value) -> List (Addr × Obj) -> Prop) (W : WalkG prog w A target I fp n P St) (hLf : env.locals ∉ fp) (hgI : g.get? I = none) (hnf : ∀ p ∈ news, p.1 ∉ fp) (hst : St 0 sz2.heap) (F : Fr g env.locals sz2.heap m) (N : News g env.locals sz2.heap news) (h0 : J 0 m news) (step : ∀ i v mz1 news1 hz1 tk dr own, i < n -> P i v hz1 -> J i mz1 news1 -> (∀ p ∈ news1, p.1 ∉ fp) -> (∀ p ∈ own, p.1 ∈ fp) -> (∀ a ∈ fp, ∀ o, hz1.get? a = some o -> g.get? a = none -> (a, o) ∈ own) -> St (i + 1) hz1 -> Fr g env.locals hz1 mz1 -> News g env.locals hz1 (news1 ++ own) -> wpAny (model prog w) A (assign target env v) (fun _ sz3 => wpAny (model prog w) A (execs body env) (StepG g env.locals fp own sz2 (J (i + 1)) Q) noE sz3) noE { sz2 with heap := hz1, toks := tk, drawn := dr }) (hQ : ∀ mz1 news1 hz1 tk dr, (∃ h', St n h' /\ ∀ b o, b ≠ I -> h'.get? b = some o -> hz1.get? b = some o) -> J n mz1 news1 -> Fr g env.locals hz1 mz1 -> News g env.locals hz1 news1 -> Q .next { sz2 with heap := hz1, toks := tk, drawn := dr }), G9 (.ref I) sz2
theorem For_g {target iter : Expr} {body : List Stmt} {pos : Pos} (g : Heap)
  (h : wpAny (model prog w) A (eval iter env) (fun xv sz1 => wpAny (model prog w) A (pyIter xv) (fun it sz2 => Chu2 (LoopG prog w A g env target body Q) it sz2) noE sz1) noE s)
  (hs : ∀ x, foldedSetIterable iter env x = pure x) :
  wpAny (model prog w) A (exec (.For target iter body [] pos) env) Q noE s := by
 refine wpAny_For (wpAny_mono h (fun xv sz1 hz1 => wpAny_mono hz1 (fun it sz2 hzz2 => ?_) fun _ _ e => e.elim) fun _ _ e => e.elim) hs
 refine Chu2.out hzz2 ?_
 intro sz2 I fp n P St m news J W hLf hgI hnf hst F N h0 step hQ
 clear hzz2
 have hIfp : I ∈ fp := W.self
 have hLI : env.locals ≠ I := fun q => hLf (q ▸ hIfp)
 have off : ∀ {h hz1 : Heap}, (∀ b o, b ≠ I -> h.get? b = some o -> hz1.get? b = some o) -> OffKeep [I] h hz1 := fun k b o hb e => k b o (fun q => hb (List.mem_singleton.mpr q)) e
 refine codeAny_forLoop_any (Chu2 (InvMy g env.locals fp sz2.gens sz2.os n St fun i m news _ => J i m news)) ?_ (n + 1) (fun _ k9 => k9 sz2.heap sz2.toks sz2.drawn m news 0 hst F N hnf h0 (Nat.zero_le _))
 intro k s' hz3
 refine Chu2.out hz3 ?_
 intro h' tk dr m' news' i hst' F' N' hnf' hJ hi
 clear hz3
 by_cases hlt : i < n
 ·refine wpAny_mono (W.item i _ (fun v sz3 => wpAny (model prog w) A (assign target env v) (fun _ sz3 => wpAny (model prog w) A (execs body env) (StepK (fun sz4 => ∃ m, m < n + 1 - i /\ Chu2 (InvMy g env.locals fp sz2.gens sz2.os n St fun i m news _ => J i m news) m sz4) Q) noE sz3) noE sz3) hlt hst' fun v hz1 tkz1 hP hstz1 hkz1 => ?_) (fun r sz4 hz4 => ?_) fun _ _ e => e.elim
  ·have FN := walk_left hLI hgI hIfp F' N' hnf' (off hkz1)
   refine wpAny_mono (step i v m' news' hz1 tkz1 dr (ownOf g fp hz1) hlt hP hJ hnf' ownOf_sub (fun a ha o e hn => mem_ownOf ha hn e) hstz1 FN.1 (News.append FN.2 (news_ownOf hLf))) (fun _ sz3 hz3 => wpAny_mono hz3 (fun f sz4 hz4 => ?_) fun _ _ e => e.elim) fun _ _ e => e.elim
   have fin : Chu (NextG g env.locals fp (ownOf g fp hz1) sz2.gens sz2.os (J (i + 1))) sz4 -> ∃ m, m < n + 1 - i /\ Chu2 (InvMy g env.locals fp sz2.gens sz2.os n St fun i m news _ => J i m news) m sz4 := by
    intro hz5
    refine Chu.out hz5 ?_
    intro h3' tkz3 drz3 mz2 news2 Fz3 Nz3 haz3 hJ3
    exact ⟨n + 1 - (i + 1), walk_dec hlt, fun _ k9 => k9 h3' tkz3 drz3 mz2 news2 (i + 1) (W.frame _ _ _ hstz1 (walk_own FN.1 Fz3 Nz3)) Fz3 (fun p hp => Nz3 p (List.mem_append_left _ hp)) haz3 hJ3 hlt⟩
   cases f with
   | ret v => exact hz4
   | brk => exact hz4
   | cont => exact fin hz4
   | next => exact fin hz4
  ·cases r with
   | none => exact hz4.elim
   | some v => exact wpAny_mono hz4 (fun _ s5 hz5 => wpAny_mono hz5 (fun _ s6 hz6 => wpAny_mono hz6 (fun f s7 hz7 => by cases f <;> exact hz7) fun _ _ e => e.elim) fun _ _ e => e.elim) fun _ _ e => e.elim
 ·obtain rfl : i = n := Nat.le_antisymm hi (Nat.le_of_not_lt hlt)
  refine wpAny_mono (W.done _ (fun r sz1 => r = none /\ Q .next sz1) hst' fun hz1 tkz1 hkz1 => ⟨rfl, ?_⟩) (fun r sz4 hz4 => by rw [hz4.1]; exact wpAny_execs_nil hz4.2) fun _ _ e => e.elim
  have FN := walk_left hLI hgI hIfp F' N' hnf' (off hkz1)
  exact hQ m' news' hz1 tkz1 dr ⟨h', hst', hkz1⟩ hJ FN.1 FN.2
theorem iter_listG {E : Value -> Shared -> Prop} {target : Expr} {body : List Stmt} {out : Array Value} {c : Nat} {r : Addr} {m : Str -> Option Value} {news : List (Addr × Obj)} (J : Nat -> (Str -> Option Value) -> List (Addr × Obj) -> Prop) (ho : s.heap.get? r = some (listO out c)) (hrL : env.locals ≠ r) (hrn : ∀ p ∈ news, p.1 ≠ r) (hh : A.handled = none)
  (F : Fr g env.locals s.heap m) (N : News g env.locals s.heap news)
  (h0 : ∀ h', (∀ b o, s.heap.get? b = some o -> h'.get? b = some o) -> (∃ o, h'.get? s.heap.objs.size = some o /\ o.cls ≠ .type "tuple") -> Fr g env.locals h' m -> News g env.locals h' news -> J 0 m news)
  (step : ∀ i v mz1 news1 hz1 tk dr own, out[i]? = some v -> J i mz1 news1 -> (∀ p ∈ news1, p.1 ∉ [s.heap.objs.size, r]) -> (∀ p ∈ own, p.1 ∈ [s.heap.objs.size, r] /\ p.2.cls ≠ .type "tuple") -> (∃ o, (s.heap.objs.size, o) ∈ own) -> (∃ o, (r, o) ∈ own) -> Fr g env.locals hz1 mz1 -> News g env.locals hz1 (news1 ++ own) ->
   wpAny (model prog w) A (assign target env v) (fun _ sz3 => wpAny (model prog w) A (execs body env) (StepG g env.locals [s.heap.objs.size, r] own s (J (i + 1)) Q) noE sz3) noE { s with heap := hz1, toks := tk, drawn := dr })
  (fin : ∀ mz1 news1 hz1 tk dr, hz1.get? r = some (listO out c) -> J out.size mz1 news1 -> Fr g env.locals hz1 mz1 -> News g env.locals hz1 news1 -> Q .next { s with heap := hz1, toks := tk, drawn := dr })
  (hgr : g.get? r = none) (ht : ∀ (it v : Value), letOwnedTupleGo target it v = pure ()) :
  wpAny (model prog w) A (pyIter (.ref r)) (fun it sz2 => Chu2 (LoopG prog w A g env target body Q) it sz2) E s := by
 refine wpAny_pyIter_list (isList_listO ho) ?_
 have hI : ∀ b o, s.heap.get? b = some o -> b ≠ s.heap.objs.size := fun b o e => Nat.ne_of_lt (Heap.lt_size e)
 have hk2 : ∀ b o, s.heap.get? b = some o -> (s.heap.push { cls := .type "list_iterator", data := .fields #[.ref r, .int 0 0] }).get? b = some o := fun b o e => Heap.get?_push_of_some _ e
 have hgI : (s.heap.push { cls := .type "list_iterator", data := .fields #[.ref r, .int 0 0] }).get? s.heap.objs.size = some { cls := .type "list_iterator", data := .fields #[.ref r, .int 0 0] } := Heap.get?_push_size _ rfl
 have hgfr := (fresh_off F (fresh_size s.heap))
 have hcl : ∀ (i : Nat) (h : Heap), (h.IsListIter s.heap.objs.size r i /\ h.IsList r out) -> ∃ o : Obj, h.get? s.heap.objs.size = some o /\ o.cls ≠ .type "tuple" := by
  rintro i h q84; refine x02 q84 fun q85 _ => ?_; refine x13 q85 fun oI h1 h2 _ => ?_
  exact ⟨oI, h1, by rw [h2]; decide⟩
 refine (fun _ k9 => k9 s.heap.objs.size ([s.heap.objs.size, r]) out.size _ _ m news J ((WalkG.of_walks (Walks.list hh s.heap.objs.size r (hI _ _ ho) out) hcl ht).obj (o₀ := listO out c) (List.mem_cons_of_mem _ (List.mem_singleton.mpr rfl)) (hI _ _ ho)) ?_ hgfr.2 ?_ (⟨⟨⟨_, hgI, rfl, rfl⟩, isList_listO (hk2 _ _ ho)⟩, hk2 _ _ ho⟩) (fr_stay F hk2) (news_stay N hk2) (h0 _ hk2 ⟨_, hgI, by show (Value.type "list_iterator") ≠ _; decide⟩ (fr_stay F hk2) (news_stay N hk2)) ?_ ?_)
 ·simp only [List.mem_cons, List.not_mem_nil, or_false, not_or]
  exact ⟨fun q => hgfr.1 q.symm, hrL⟩
 ·intro p hp
  simp only [List.mem_cons, List.not_mem_nil, or_false, not_or]
  exact ⟨hI _ _ (N p hp).1, hrn p hp⟩
 ·rintro i v mz1 news1 hz1 tk dr own hi hv hJ hnf hown hmem q86 F1 N1; refine x02 q86 fun hst _ => ?_
  refine hidG fun GG hGG => ?_
  refine x12 (hcl _ _ hst) fun oI e1 c1 => ?_
  refine x02 hst fun q91 q92 => ?_; refine x13 q91 fun _ _ _ _ => ?_; refine x13 q92 fun or e2 c2 _ => ?_
  refine hGG ?_
  refine step i v mz1 news1 hz1 tk dr own hv hJ hnf (fun p hp => ⟨hown p hp, ?_⟩) ⟨oI, hmem _ (by simp) _ e1 hgfr.2⟩ ⟨or, hmem _ (by simp) _ e2 hgr⟩ F1 N1
  have q := hown p hp
  have e := (N1 p (List.mem_append_right _ hp)).1
  simp only [List.mem_cons, List.not_mem_nil, or_false] at q
  rcases q with q | q
  ·rw [q, e1] at e; cases e; exact c1
  ·rw [q, e2] at e; cases e; rw [c2]; decide
 ·exact fun mz1 news1 hz1 tk dr ⟨_, ⟨_, e⟩, k⟩ hJ F1 N1 => fin mz1 news1 hz1 tk dr (k _ _ (hI _ _ ho) e) hJ F1 N1
end
end
-- IterS
section
open PySem PySem.W PyProof.Rows PySem.Calls
section
variable {prog : Program} {w : World} {A : Around} {E : Value -> Shared -> Prop} {s : Shared} {env : Env} {g : Heap} {Q : Flow -> Shared -> Prop} {target : Expr} {body : List Stmt}
theorem iter_str {xs : Str} {tx : Tok} {m : Str -> Option Value} {news : List (Addr × Obj)} (J : Nat -> (Str -> Option Value) -> List (Addr × Obj) -> Heap -> Prop) (hh : A.handled = none) (F : Fr g env.locals s.heap m) (N : News g env.locals s.heap news) (h0 : J 0 m news s.heap)
  (stable : ∀ i m news h h', J i m news h -> TupKeep h h' -> J i m news h')
  (step : ∀ I i c tv mz1 news1 hz1 tk dr own, xs.cps[i]? = some c -> J i mz1 news1 hz1 -> (∀ p ∈ news1, p.1 ∉ [I]) -> (∀ p ∈ own, p.1 ∈ [I]) -> Fr g env.locals hz1 mz1 -> News g env.locals hz1 (news1 ++ own) -> (∃ o, (I, o) ∈ own) ->
   wpAny (model prog w) A (assign target env (.str ⟨#[c]⟩ tv)) (fun _ sz3 => wpAny (model prog w) A (execs body env) (StepMy g env.locals [I] own s (J (i + 1)) Q) noE sz3) noE { s with heap := hz1, toks := tk, drawn := dr })
  (fin : ∀ mz1 news1 hz1 tk dr, J xs.cps.size mz1 news1 hz1 -> Fr g env.locals hz1 mz1 -> News g env.locals hz1 news1 -> Q .next { s with heap := hz1, toks := tk, drawn := dr }) :
  wpAny (model prog w) A (pyIter (.str xs tx)) (fun it sz2 => Chu2 (LoopMy prog w A g env target body Q) it sz2) E s := by
 have hI : ∀ b o, s.heap.get? b = some o -> b ≠ s.heap.objs.size := fun b o e => Nat.ne_of_lt (Heap.lt_size e)
 have hgfr := (fresh_off F (fresh_size s.heap))
 have main : ∀ (ty : String) (o : Obj), o.cls = .type ty -> ty ≠ "tuple" -> (∀ A' : Around, A'.handled = none -> Walks prog w A' s.heap.objs.size [s.heap.objs.size] [s.heap.objs.size] xs.cps.size (SignAt xs) (fun i h => h.IsStrIter s.heap.objs.size ty xs tx i)) -> (s.heap.push o).IsStrIter s.heap.objs.size ty xs tx 0 -> o.isFreed = false ->
   Chu2 (LoopMy prog w A g env target body Q) (.ref s.heap.objs.size) { s with heap := s.heap.push o } := by
  intro ty o hc hty W hst hfreed
  have hk2 : ∀ b o', s.heap.get? b = some o' -> (s.heap.push o).get? b = some o' := fun b o' e => Heap.get?_push_of_some _ e
  refine (fun _ k9 => k9 s.heap.objs.size ([s.heap.objs.size]) xs.cps.size (SignAt xs) _ m news J (W A hh) ?_ hgfr.2 ?_ ?_ hst (fr_stay F hk2) (news_stay N hk2) (stable _ _ _ _ _ h0 fun b o e _ => hk2 b o e) (fun i m news h h' hJ _ _ tk => stable _ _ _ _ _ hJ tk) ?_ ?_)
  ·simp only [List.mem_cons, List.not_mem_nil, or_false]
   exact fun q => hgfr.1 q.symm
  ·rintro i h q84; refine x13 q84 fun o' e c _ => ?_
   exact ⟨o', e, by rw [c]; intro q; injection q with q; exact hty q⟩
  ·intro p hp
   simp only [List.mem_cons, List.not_mem_nil, or_false]
   exact hI _ _ (N p hp).1
  ·rintro i v mz1 news1 hz1 tk dr own hi q85 hJ hnf hown F1 N1 hIo; refine x22 q85 fun c tv hk q86 => ?_; subst q86
   exact step _ i c tv mz1 news1 hz1 tk dr own hk hJ hnf hown F1 N1 hIo
  ·exact fun mz1 news1 hz1 tk dr hJ F1 N1 => fin mz1 news1 hz1 tk dr hJ F1 N1
 cases ha : xs.cps.all (· < 128)
 ·exact wpAny_pyIter_wide ha (main "str_iterator" _ rfl (by decide) (fun A' hA => Walks.strWide hA _ xs tx) ⟨_, Heap.get?_push_size _ rfl, rfl, rfl⟩ rfl)
 ·exact wpAny_pyIter_ascii ha (main "str_ascii_iterator" _ rfl (by decide) (fun A' hA => Walks.strAscii hA _ xs tx) ⟨_, Heap.get?_push_size _ rfl, rfl, rfl⟩ rfl)
noncomputable def TIo (o : Obj) (ns : List Int) : Prop := o.cls = .type "tuple" /\ ∃ items n, o.data = .seq items n /\ ∃ ts : List Tok, ts.length = ns.length /\ items.toList = (ns.zip ts).map fun x => .int x.1 x.2
theorem IsTI.toO {h : Heap} {ns : List Int} {a : Addr} (x : IsTI h ns a) : ∃ o, h.get? a = some o /\ TIo o ns :=
 let ⟨o, items, n, ho, hc, hd, r⟩ := x; ⟨o, ho, hc, items, n, hd, r⟩
theorem TIo.at {h : Heap} {ns : List Int} {a : Addr} {o : Obj} (x : TIo o ns) (e : h.get? a = some o) : IsTI h ns a :=
 let ⟨hc, items, n, hd, r⟩ := x; ⟨o, items, n, e, hc, hd, r⟩
theorem truthy_tupI {ns : List Int} {r : Addr} {Q : Bool -> Shared -> Prop} (ht : IsTI s.heap ns r) (hle : ns.length ≤ 1000) (h : ∀ tk, Q (!ns.isEmpty) { s with toks := tk }) : wpAny (model prog w) A (truthy (.ref r)) Q E s := by
 refine hidG fun GG hGG => ?_
 obtain ⟨o, items, n, ho, hc, hd, ts, hl, hi⟩ := ht
 refine hGG ?_
 have hsz : items.size = ns.length := by rw [← Array.length_toList, hi, List.length_map, List.length_zip]; lia
 have e : items.isEmpty = ns.isEmpty := by
  unfold Array.isEmpty
  rw [hsz]; cases ns <;> simp
 refine truthy_tuple (items := items) ⟨o, ho, hc, n, hd⟩ (by lia) ?_
 rw [e]; exact h _
end
end
-- NIsFin
section
open PySem PySem.W PyProof.Rows PySem.Calls
theorem off_NIsFin : True := by
 w_top off
 trivial
variable {prog : Program} {w : World} {p : Program} {loose : List Str} {mean : ExcName -> Option Value} {mg mb : Str -> Option Value} {hz0 hq : Heap}
variable {s : Shared} {dp un : Nat} {fr : List Env} {gd : Option (List Code)} {R : Result -> Shared -> Prop}
variable {x dx t f : Addr} {i : Int} {Ar : Int -> Str -> Int -> Prop} {Fin : Int -> Prop} {t1 t2 t3 ti : Tok} {n : Nat}
theorem n_is_final {ns : List Int} {st : Addr} (H : Base (hd.heap_1 w.params) p loose mean mg mb hz0) (hk : ∀ b o, hz0.get? b = some o -> s.heap.get? b = some o)
  (V : NfaAt prog w hz0 hq s.heap x i Ar Fin dx t f t1 t2 t3 ti n) (hst : IsTI s.heap ns st)
  (hd1 : dp + 5 < recursionLimit) (hu : un + 20 < cLine)
  (hR : ∀ h' tk dr b, (∀ b o, s.heap.get? b = some o -> h'.get? b = some o) -> (b = true ↔ ∃ a ∈ ns, Fin a) -> R (.ok (.ret (.bool b))) { s with heap := h', toks := tk, drawn := dr }) :
  codeAny (model prog w) (A0 dp un fr gd) (.call (.ref 184) ⟨[.ref x, .ref st], []⟩) R s := by
 have hN := V.led
 k_dflt (apply enter; assumption; assumption; assumption; k_is; k_is; exact Nat.lt_of_le_of_lt (Nat.le_add_right _ _) (by assumption); exact BindsTo.of_eq rfl; exact locs rfl; exact rfl; exact rfl; exact rfl; decide; k_whole; intro _ _ _ _ _ _ _ _ _; (try dsimp only); (try k_fold))
 rename_i g hz1 Hg Hs Hk F N X T
 have tkg := tk_hide Hg (fun q hq => (hN q hq).1) V.ledT
 have subg := sub_hide Hg V.sub V.ledQ
 o_steps
 refine x12 V.S fun lf Sf hf => ?_
 have Sg := Sf.stay subg
 (rename Fr _ _ _ _ => F1; rename News _ _ _ _ => N1; try rename Heap => hz1')
 refine meth_set (Sg.fr F1) PySem.F.slot_set_intersection PySem.F.type_set_intersection ?_
 o_steps
 refine call_inter (l := lf) (ns := ns) ?_ ?_ ?_ ?_ fun h2 tk2 r2 o2 l2 hk2 hr2 ho2 S2 hl2 => ?_
 ·rfl
 ·exact (rmL hu rfl : un + 9 < cLine)
 ·exact Sg.fr F1
 ·exact hst.tk (tkg.trans fun b o e _ => F1.keep b o e)
 have Fz2 := fr_stay F1 hk2
 have Nz2 := news_cons (news_stay N1 hk2) ho2 (fresh_off F1 hr2).1 (fresh_off F1 hr2).2
 clear F1 N1
 o_steps
 refine call_bool_set (l := l2) ?_ fun tk3 => ?_
 ·exact S2.at (Nz2.get (by k_mem))
 o_steps
 refine hR _ _ _ _ (fun b o e => off_end (D := []) Fz2 Hg (fun q hq => (hN q hq).1) ?_ b o (by omega_side) e) ?_
 ·intro q hq
  simp only [List.mem_cons, List.not_mem_nil, or_false] at hq
  rcases hq with rfl | rfl
  ·exact .inr (Nz2.get (by k_mem))
  ·exact .inr (Nz2.get (by k_mem))
 ·have : ((!l2.isEmpty) = true) ↔ l2 ≠ [] := by cases l2 <;> simp
  rw [this, hl2]
  exact ⟨fun q81 => x12 q81 fun a h1 h2 => ⟨a, h1, (hf a).mp h2⟩, fun q82 => x12 q82 fun a h1 h2 => ⟨a, h1, (hf a).mpr h2⟩⟩
theorem n_start (H : Base (hd.heap_1 w.params) p loose mean mg mb hz0) (hk : ∀ b o, hz0.get? b = some o -> s.heap.get? b = some o)
  (V : NfaAt prog w hz0 hq s.heap x i Ar Fin dx t f t1 t2 t3 ti n) {U : Int -> Prop} (hU : Small U i Ar)
  (hd1 : dp + 9 < recursionLimit) (hu : un + 40 < cLine)
  (hR : ∀ h' tk dr r ns, (∀ b o, s.heap.get? b = some o -> h'.get? b = some o) -> s.heap.get? r = none -> IsTI h' ns r -> ns.Pairwise (· ≤ ·) -> ns.Nodup -> (∀ b, b ∈ ns ↔ Clos Ar [i] b) -> R (.ok (.ret (.ref r))) { s with heap := h', toks := tk, drawn := dr }) :
  codeAny (model prog w) (A0 dp un fr gd) (.call (.ref 163) ⟨[.ref x], []⟩) R s := by
 have hN := V.led
 k_dflt (apply enter; assumption; assumption; assumption; k_is; k_is; exact Nat.lt_of_le_of_lt (Nat.le_add_right _ _) (by assumption); exact BindsTo.of_eq rfl; exact locs rfl; exact rfl; exact rfl; exact rfl; decide; k_whole; intro _ _ _ _ _ _ _ _ _; (try dsimp only); (try k_fold))
 rename_i g hz1 Hg Hs Hk F N X T
 have tkg := tk_hide Hg (fun q hq => (hN q hq).1) V.ledT
 have subg := sub_hide Hg V.sub V.ledQ
 o_steps
 (rename Fr _ _ _ _ => F1; rename News _ _ _ _ => N1; try rename Heap => hz1')
 refine call_set_one (k := i) (tk := ti) (c := 0) ?_ ?_ ?_ fun h2 tk2 r2 o2 hk2 hr2 ho2 S2 => ?_
 ·rfl
 ·exact (rmL hu rfl : un + 9 < cLine)
 ·exact N1.get (by k_mem)
 have Fz2 := fr_stay F1 hk2
 have Nz2 := news_cons (news_stay N1 hk2) ho2 (fresh_off F1 hr2).1 (fresh_off F1 hr2).2
 have e1 : r2 ≠ x := ne_get (N1.get (by k_mem)) hr2
 have e2 : r2 ≠ dx := ne_get (N1.get (by k_mem)) hr2
 have e3 := ne_get (N1.get (List.Mem.head _)) hr2
 clear F1 N1
 o_steps
 have sub0 := sub_hide Hg hk (fun q hq => (hN q hq).2)
 have Vz2 := V.now Fz2 Nz2 subg (by k_mem) (by k_mem)
 refine wpAny_call ?_
 refine n_expand (l := [i]) (U := U) (hq := hq) H ?_ ?_ ?_ e1 e2 Vz2.led Vz2.sub ?_ V.qx V.qd V.T hU.len ?_ hU.arc ?_ ?_ fun h3 tk3 dr3 l3 hk3 S3 hl3 => ?_
 ·exact fun b o e => Fz2.keep _ _ (sub0 b o e)
 ·exact S2.at (Nz2.get (by k_mem))
 ·exact none_sub sub0 (Nz2.fresh (a := r2) (o := o2) (by k_mem))
 ·exact none_sub subg (Nz2.fresh (a := r2) (o := o2) (by k_mem))
 ·intro a ha; simp at ha; subst ha; exact hU.init
 ·exact (rmL hd1 rfl : dp + 6 < recursionLimit)
 ·exact (rmL hu rfl : un + 23 < cLine)
 refine x12 S3.toI fun o3 ho3 SI3 => ?_
 refine x02 (news_hitO (pre := []) Fz2 Nz2 (by omega_side) (by simp [Ne.symm e1, Ne.symm e2, Ne.symm e3]) hk3 ho3) fun Fz3 Nz3 => ?_
 dsimp only [List.nil_append] at Nz3
 clear Fz2 Nz2
 try dsimp only
 o_steps
 refine sorted_ints_at (l := l3) (lim := 7) ?_ ?_ fun h4 tk4 dr4 r4 out c4 ns I4 hp4 hpw hk4 hr4 ho4 => ?_
 ·rfl
 ·exact SI3.at (Nz3.get (by k_mem))
 have F4 := fr_stay Fz3 hk4
 have N4 := news_cons (news_stay Nz3 hk4) ho4 (fresh_off Fz3 hr4).1 (fresh_off Fz3 hr4).2
 clear Fz3 Nz3
 o_steps
 have hl7 := SI3.le
 have hlen := ints_len I4
 have hlen2 := hp4.length_eq
 refine tuple_of_list (arr := out) (c := c4) ?_ I4 ?_ fun h5 r5 hk5 hr5 ht5 => ?_
 ·exact N4.get (by k_mem)
 ·rw [sizeLine_eq, ← Array.length_toList]; omega
 have F5 := fr_stay F4 hk5
 have N5 := news_stay N4 hk5
 o_steps
 have hend : ∀ b o, s.heap.get? b = some o -> h5.get? b = some o := fun b o e => off_end (D := []) F5 Hg (fun q hq => (hN q hq).1) (by
  refine all2 ?_ ?_
  ·exact .inr (N5.get (by k_mem))
  ·exact .inr (N5.get (by k_mem))) b o (by omega_side) e
 have hend4 : ∀ b o, s.heap.get? b = some o -> h4.get? b = some o := fun b o e => off_end (D := []) F4 Hg (fun q hq => (hN q hq).1) (by
  refine all2 ?_ ?_
  ·exact .inr (N4.get (by k_mem))
  ·exact .inr (N4.get (by k_mem))) b o (by omega_side) e
 refine hR _ _ _ r5 ns hend ?_ ht5 hpw (hp4.nodup_iff.mpr SI3.nodup) fun b => by rw [hp4.mem_iff, hl3]
 exact none_sub hend4 hr5
end
-- NNext
section
open PySem PySem.W PyProof.Rows PySem.Calls
theorem off_NNext : True := by
 w_top off
 trivial
noncomputable abbrev ANYS : Str := Str.ofString "<ANY>"
noncomputable def Move (Ar : Int -> Str -> Int -> Prop) (lab : Str) (ns : List Int) (c : Int) : Prop := ∃ a ∈ ns, Ar a lab c ∨ Ar a ANYS c
theorem move_succ {Ar : Int -> Str -> Int -> Prop} {lab : Str} {ns : List Int} {j : Nat} {k : Int} (h : ns[j]? = some k) (b : Int) : Move Ar lab (ns.take (j + 1)) b ↔ Move Ar lab (ns.take j) b ∨ Ar k lab b ∨ Ar k ANYS b := by
 have e : ns.take (j + 1) = ns.take j ++ [k] := by rw [List.take_add_one, h]; rfl
 skip
 refine (e).symm ▸ ?_
 constructor
 ·rintro q82; refine x12 q82 fun a ha q => ?_
  rcases List.mem_append.mp ha with r | r
  ·exact .inl ⟨a, r, q⟩
  ·simp at r; subst r; exact .inr q
 ·rintro (⟨a, ha, q⟩ | q)
  ·exact ⟨a, List.mem_append_left _ ha, q⟩
  ·exact ⟨k, by simp, q⟩
theorem move_U {Ar : Int -> Str -> Int -> Prop} {U : Int -> Prop} {i : Int} (hU : Small U i Ar) {lab : Str} {ns : List Int} {b : Int} (h : Move Ar lab ns b) : U b := by
 obtain ⟨a, _, q | q⟩ := h
 ·exact hU.arc _ _ _ q
 ·exact hU.arc _ _ _ q
noncomputable def NxA (prog : Program) (w : World) (x : Addr) (dx : Addr) (t : Addr) (f : Addr) (ds : Addr) (i : Int) (ti : Tok) (t1 : Tok) (t2 : Tok) (t3 : Tok) (n : Nat) (lab : Str) (tl : Tok) (Ar : Int -> Str -> Int -> Prop) (ns : List Int) (j : Nat) (m : Str -> Option Value) (G9 : List (Addr × Obj) -> Prop) : Prop := ∀ (o : Obj) (l : List Int) (q0 : m (Str.ofString "self") = some (.ref x)) (q1 : m (Str.ofString "label") = some (.str lab tl)) (q2 : m (Str.ofString "transitions") = some (.ref t)) (q3 : m (Str.ofString "dest_states") = some (.ref ds)) (q5 : SetI prog w 7 o l) (q6 : ∀ b, b ∈ l ↔ Move Ar lab (ns.take j) b), G9 [(ds, o), (x, instObj 229 dx), (dx, nfaD w t f (.int i ti) t1 t2 t3 n)]
variable {prog : Program} {w : World} {p : Program} {loose : List Str} {mean : ExcName -> Option Value} {mg mb : Str -> Option Value} {hz0 hq : Heap}
variable {s : Shared} {dp un : Nat} {fr : List Env} {gd : Option (List Code)} {R : Result -> Shared -> Prop}
variable {x dx t f : Addr} {i : Int} {Ar : Int -> Str -> Int -> Prop} {Fin : Int -> Prop} {t1 t2 t3 ti : Tok} {n : Nat}
theorem n_next {ns : List Int} {st : Addr} {lab : Str} {tl : Tok} (H : Base (hd.heap_1 w.params) p loose mean mg mb hz0) (hk : ∀ b o, hz0.get? b = some o -> s.heap.get? b = some o)
  (V : NfaAt prog w hz0 hq s.heap x i Ar Fin dx t f t1 t2 t3 ti n) {U : Int -> Prop} (hU : Small U i Ar) (hst : IsTI s.heap ns st)
  (hd1 : dp + 9 < recursionLimit) (hu : un + 40 < cLine)
  (hR : ∀ h' tk dr r ms, (∀ b o, s.heap.get? b = some o -> h'.get? b = some o) -> s.heap.get? r = none -> IsTI h' ms r -> ms.Pairwise (· ≤ ·) -> ms.Nodup -> (∀ b, b ∈ ms ↔ ∃ c, Move Ar lab ns c /\ Star Ar EPS c b) -> R (.ok (.ret (.ref r))) { s with heap := h', toks := tk, drawn := dr }) :
  codeAny (model prog w) (A0 dp un fr gd) (.call (.ref 198) ⟨[.ref x, .ref st, .str lab tl], []⟩) R s := by
 have hN := V.led
 k_dflt (apply enter; assumption; assumption; assumption; k_is; k_is; exact Nat.lt_of_le_of_lt (Nat.le_add_right _ _) (by assumption); exact BindsTo.of_eq rfl; exact locs rfl; exact rfl; exact rfl; exact rfl; decide; k_whole; intro _ _ _ _ _ _ _ _ _; (try dsimp only); (try k_fold))
 rename_i g hz1 Hg Hs Hk F N X T
 have tkg := tk_hide Hg (fun q hq => (hN q hq).1) V.ledT
 have subg := sub_hide Hg V.sub V.ledQ
 have hstg : IsTI g ns st := hst.tk tkg
 obtain ⟨lt, Dt, t1', t2'⟩ := V.T.stay subg
 o_steps
 (rename Fr _ _ _ _ => F1; rename News _ _ _ _ => N1; try rename Heap => hz1')
 refine call_set0 (sk := skInt prog w) (lim := 7) (by decide) fun h2 ds hk2 hr2 S2 => S2.bornI F1 N1 hk2 hr2 fun o2 ho2 SI2 Fz2 Nz2 => ?_
 have e1 : ds ≠ x := ne_get (N1.get (by k_mem)) hr2
 have e2 : ds ≠ dx := ne_get (N1.get (by k_mem)) hr2
 clear F1 N1
 o_steps
 (rename Fr _ _ _ _ => Fz3; rename News _ _ _ _ => Nz3; try rename Heap => hz3)
 refine For_my (hs := fun _ => rfl) (ht := fun _ _ => rfl) g ?_
 o_steps
 refine iter_tup (ns := ns) (fun j m news _ => Chu (NxA prog w x dx t f ds i ti t1 t2 t3 n lab tl Ar ns j m) news) hstg rfl Fz3 Nz3 ?_ ?_ ?_ ?_
 ·exact (fun _ k9 => k9 o2 ([]) rfl rfl rfl rfl SI2 (fun b => ⟨(nomatch ·), fun q83 => x12 q83 fun _ q _ => absurd q List.not_mem_nil⟩))
 ·exact fun _ _ _ _ _ hJ _ => hJ
 ·intro I j k tv mz1 news1 hz4 tk dr own hjk hJ9
  refine Chu.out hJ9 ?_
  clear hJ9
  intro o l m1 m2 m3 m4 SI hl hav hown F4 N4
  refine stepMy_hide fun G hG => ?_
  have F4 := fr_put (Str.ofString "self") (fr_put (Str.ofString "label") (fr_put (Str.ofString "transitions") (fr_put (Str.ofString "dest_states") F4 m4) (by exact m3)) (by exact m2)) (by exact m1)
  dsimp only [List.cons_append, List.nil_append] at N4
  refine wpAny_assign_Name ?_
  o_steps
  (rename Fr _ _ _ _ => F5; rename News _ _ _ _ => N5; try rename Heap => hz5)
  have havd : ds ∉ [I, st] := hav (ds, o) (.head _)
  have hod : ∀ q ∈ own, q.1 ≠ ds := fun q hq e => havd (e ▸ hown q hq)
  have hpost : ∀ q ∈ ((x, instObj 229 dx) :: (dx, nfaD w t f (.int i ti) t1 t2 t3 n) :: own), q.1 ≠ ds := nqC (Ne.symm e1) (nqC (Ne.symm e2) hod)
  have hav' : ∀ o', ∀ q ∈ [(ds, o'), (x, instObj 229 dx), (dx, nfaD w t f (.int i ti) t1 t2 t3 n)], q.1 ∉ [I, st] := fun o' => allC havd fun q hq' => hav q (List.mem_cons_of_mem _ hq')
  by_cases hkt : k ∈ lt.map (·.1)
  ·(apply in_yes hkt; exact (Dt.fr F5); (o_norm; exact ⟨_, rfl⟩; intro _))
   refine trGet t1' hkt fun d li hkv Di t3' t4' => ?_
   o_steps
   (apply sub_at hkv; exact (Dt.fr F5); (o_norm; exact ⟨_, rfl⟩; intro _))
   o_steps
   (rename Fr _ _ _ _ => F6; rename News _ _ _ _ => N6; try rename Heap => hz6)
   by_cases hk1 : lab ∈ li.map (·.1)
   ·(apply in_yes hk1; exact (Di.fr F6); (o_norm; exact ⟨_, rfl⟩; intro _))
    refine setGet t3' hk1 fun sa xs hkvE Ss hxs => ?_
    o_steps
    refine meth_set (SI.at (N6.get (by k_mem))) PySem.F.slot_set_update PySem.F.type_set_update ?_
    o_steps
    (apply sub_at hkvE; exact (Di.fr F6); (o_norm; exact ⟨_, rfl⟩; intro _))
    o_steps
    have nsa : ds ≠ sa := Ss.exP fun o' e' _ => ne_get e' (N6.fresh (a := ds) (o := o) (by k_mem))
    refine update_ints (lim := 7) (l1 := l) (l2 := xs) ?_ ?_ nsa (by decide) ?_ ?_ fun h8 o8 l8 hs8 ho8 S8 hl8 => ?_
    ·exact SI.at (N6.get (by k_mem))
    ·exact Ss.fr F6
    ·o_norm
    ·exact fun m hm hmm => hU.len m hm fun q hq => (hmm q hq).elim (fun h => move_U hU ((hl q).mp h)) fun h => hU.arc _ _ _ ((hxs q).mp h)
    refine hit0 F6 N6 hpost hs8 ho8 fun F8 N8 => ?_
    clear F6 N6
    o_steps
    by_cases hk2 : ANYS ∈ li.map (·.1)
    ·(apply in_yes hk2; exact (Di.fr F8); (o_norm; exact ⟨_, rfl⟩; intro _))
     refine setGet t3' hk2 fun sa2 xs2 hkvE2 Ss2 hxs2 => ?_
     o_steps
     refine meth_set (S8.at (N8.get (by k_mem))) PySem.F.slot_set_update PySem.F.type_set_update ?_
     o_steps
     (apply sub_at hkvE2; exact (Di.fr F8); (o_norm; exact ⟨_, rfl⟩; intro _))
     o_steps
     have nsa2 : ds ≠ sa2 := Ss2.exP fun o' e' _ => ne_get e' (N8.fresh (a := ds) (o := o8) (by k_mem))
     refine update_ints (lim := 7) (l1 := l8) (l2 := xs2) ?_ ?_ nsa2 (by decide) ?_ ?_ fun h9 o9 l9 hs9 ho9 S9 hl9 => ?_
     ·exact S8.at (N8.get (by k_mem))
     ·exact Ss2.fr F8
     ·o_norm
     ·exact fun m hm hmm => hU.len m hm fun q hq => (hmm q hq).elim (fun h => ((hl8 q).mp h).elim (fun h => move_U hU ((hl q).mp h)) fun h => hU.arc _ _ _ ((hxs q).mp h)) fun h => hU.arc _ _ _ ((hxs2 q).mp h)
     refine hit0 F8 N8 hpost hs9 ho9 fun Fz9 Nz9 => ?_
     clear F8 N8
     o_steps
     refine hG _ _ _ _ [(ds, o9), (x, instObj 229 dx), (dx, nfaD w t f (.int i ti) t1 t2 t3 n)] Fz9 Nz9 (hav' o9) (fun _ k9 => k9 o9 l9 rfl rfl rfl rfl S9 (fun b => ?_))
     rw [hl9, hl8, hl, hxs, hxs2, move_succ hjk, or_assoc]
    ·(apply in_no hk2; exact (Di.fr F8); (o_norm; exact ⟨_, rfl⟩; intro _))
     o_steps
     refine hG _ _ _ _ [(ds, o8), (x, instObj 229 dx), (dx, nfaD w t f (.int i ti) t1 t2 t3 n)] F8 N8 (hav' o8) (fun _ k9 => k9 o8 l8 rfl rfl rfl rfl S8 (fun b => ?_))
     rw [hl8, hl, hxs, move_succ hjk]
     exact ⟨fun h => h.elim .inl fun h => .inr (.inl h), fun h => h.elim .inl fun h => h.elim .inr fun h => absurd (t4' _ _ h) hk2⟩
   ·(apply in_no hk1; exact (Di.fr F6); (o_norm; exact ⟨_, rfl⟩; intro _))
    o_steps
    by_cases hk2 : ANYS ∈ li.map (·.1)
    ·(apply in_yes hk2; exact (Di.fr F6); (o_norm; exact ⟨_, rfl⟩; intro _))
     refine setGet t3' hk2 fun sa2 xs2 hkvE2 Ss2 hxs2 => ?_
     o_steps
     refine meth_set (SI.at (N6.get (by k_mem))) PySem.F.slot_set_update PySem.F.type_set_update ?_
     o_steps
     (apply sub_at hkvE2; exact (Di.fr F6); (o_norm; exact ⟨_, rfl⟩; intro _))
     o_steps
     have nsa2 : ds ≠ sa2 := Ss2.exP fun o' e' _ => ne_get e' (N6.fresh (a := ds) (o := o) (by k_mem))
     refine update_ints (lim := 7) (l1 := l) (l2 := xs2) ?_ ?_ nsa2 (by decide) ?_ ?_ fun h9 o9 l9 hs9 ho9 S9 hl9 => ?_
     ·exact SI.at (N6.get (by k_mem))
     ·exact Ss2.fr F6
     ·o_norm
     ·exact fun m hm hmm => hU.len m hm fun q hq => (hmm q hq).elim (fun h => move_U hU ((hl q).mp h)) fun h => hU.arc _ _ _ ((hxs2 q).mp h)
     refine hit0 F6 N6 hpost hs9 ho9 fun Fz9 Nz9 => ?_
     clear F6 N6
     o_steps
     refine hG _ _ _ _ [(ds, o9), (x, instObj 229 dx), (dx, nfaD w t f (.int i ti) t1 t2 t3 n)] Fz9 Nz9 (hav' o9) (fun _ k9 => k9 o9 l9 rfl rfl rfl rfl S9 (fun b => ?_))
     rw [hl9, hl, hxs2, move_succ hjk]
     exact ⟨fun h => h.elim .inl fun h => .inr (.inr h), fun h => h.elim .inl fun h => h.elim (fun h => absurd (t4' _ _ h) hk1) .inr⟩
    ·(apply in_no hk2; exact (Di.fr F6); (o_norm; exact ⟨_, rfl⟩; intro _))
     o_steps
     refine hG _ _ _ _ [(ds, o), (x, instObj 229 dx), (dx, nfaD w t f (.int i ti) t1 t2 t3 n)] F6 N6 (hav' o) (fun _ k9 => k9 o l rfl rfl rfl rfl SI (fun b => ?_))
     rw [hl, move_succ hjk]
     exact ⟨.inl, fun h => h.elim id fun h => h.elim (fun h => absurd (t4' _ _ h) hk1) fun h => absurd (t4' _ _ h) hk2⟩
  ·(apply in_no hkt; exact (Dt.fr F5); (o_norm; exact ⟨_, rfl⟩; intro _))
   o_steps
   refine hG _ _ _ _ [(ds, o), (x, instObj 229 dx), (dx, nfaD w t f (.int i ti) t1 t2 t3 n)] F5 N5 (hav' o) (fun _ k9 => k9 o l rfl rfl rfl rfl SI (fun b => ?_))
   rw [hl, move_succ hjk]
   exact ⟨.inl, fun h => h.elim id fun h => h.elim (fun h => absurd (t2' _ _ _ h) hkt) fun h => absurd (t2' _ _ _ h) hkt⟩
 ·intro mz1 news1 hz4 tk dr hJ9
  refine Chu.out hJ9 ?_
  clear hJ9
  intro o l m1 m2 m3 m4 SI hl F4 N4
  have F4 := fr_put (Str.ofString "self") (fr_put (Str.ofString "label") (fr_put (Str.ofString "transitions") (fr_put (Str.ofString "dest_states") F4 m4) (by exact m3)) (by exact m2)) (by exact m1)
  try dsimp only
  o_steps
  have sub0 := sub_hide Hg hk (fun q hq => (hN q hq).2)
  have Vz2 := V.now F4 N4 subg (by k_mem) (by k_mem)
  refine wpAny_call ?_
  refine n_expand (l := l) (U := U) (hq := hq) H ?_ ?_ ?_ e1 e2 Vz2.led Vz2.sub ?_ V.qx V.qd V.T hU.len ?_ hU.arc ?_ ?_ fun h3 tk3 dr3 l3 hk3 S3 hl3 => ?_
  ·exact fun b o e => F4.keep _ _ (sub0 b o e)
  ·exact SI.at (N4.get (by k_mem))
  ·exact none_sub sub0 (N4.fresh (a := ds) (o := o) (by k_mem))
  ·exact none_sub subg (N4.fresh (a := ds) (o := o) (by k_mem))
  ·exact fun a ha => move_U hU ((hl a).mp ha)
  ·exact (rmL hd1 rfl : dp + 6 < recursionLimit)
  ·exact (rmL hu rfl : un + 23 < cLine)
  refine S3.exI fun o3 ho3 SI3 => ?_
  have FN := news_hitO (pre := []) F4 N4 nqN (nqC (Ne.symm e1) (nqC (Ne.symm e2) nqN)) hk3 ho3
  have Fz3 := FN.1
  have Nz3 : News _ _ _ ((ds, o3) :: _) := FN.2
  clear FN
  clear F4 N4
  try skip
  o_steps
  refine sorted_ints_at (l := l3) (lim := 7) ?_ ?_ fun h4 tk4 dr4 r4 out c4 ms I4 hp4 hpw hk4 hr4 ho4 => ?_
  ·rfl
  ·exact SI3.at (Nz3.get (by k_mem))
  refine bornO Fz3 Nz3 hk4 hr4 ho4 fun F5 N5 => ?_
  clear Fz3 Nz3
  o_steps
  have hl7 := SI3.le
  have hlen := ints_len I4
  have hlen2 := hp4.length_eq
  refine tuple_of_list (arr := out) (c := c4) ?_ I4 ?_ fun h5 r5 hk5 hr5 ht5 => ?_
  ·exact N5.get (by k_mem)
  ·rw [sizeLine_eq, ← Array.length_toList]; lia
  have F6 := fr_stay F5 hk5
  have N6 := news_stay N5 hk5
  o_steps
  refine hR _ _ _ r5 ms (keep_all F6 N6 Hg hN (by k_mem) (by k_mem)) (none_sub (keep_all F5 N5 Hg hN (by k_mem) (by k_mem)) hr5) ht5 hpw (hp4.nodup_iff.mpr SI3.nodup) fun b => ?_
  rw [hp4.mem_iff, hl3, show ns.take ns.length = ns from List.take_length] at *
  exact ⟨fun q84 => x12 q84 fun c hc q => ⟨c, (hl c).mp hc, q⟩, fun q85 => x12 q85 fun c hc q => ⟨c, (hl c).mpr hc, q⟩⟩
end
-- NAccept
section
open PySem PySem.W PyProof.Rows PySem.Calls
theorem off_NAccept : True := by
 w_top off
 trivial
noncomputable def stepP (Ar : Int -> Str -> Int -> Prop) (lab : Str) (S : Int -> Prop) (b : Int) : Prop := ∃ c, (∃ a, S a /\ (Ar a lab c ∨ Ar a ANYS c)) /\ Star Ar EPS c b
noncomputable def runP (Ar : Int -> Str -> Int -> Prop) (i : Int) (cs : List Nat) : Int -> Prop := cs.foldl (fun S c => stepP Ar ⟨#[c]⟩ S) (fun b => Clos Ar [i] b)
theorem star_U {E : Int -> Str -> Int -> Prop} {U : Int -> Prop} {i : Int} (hU : Small U i E) {c b : Int} (hc : U c) (h : Star E EPS c b) : U b := by
 cases h with
 | refl => exact hc
 | step _ h => exact hU.arc _ _ _ h
theorem runP_succ {Ar : Int -> Str -> Int -> Prop} {i : Int} {cs : List Nat} {j c : Nat} (h : cs[j]? = some c) (b : Int) : runP Ar i (cs.take (j + 1)) b ↔ stepP Ar ⟨#[c]⟩ (runP Ar i (cs.take j)) b := by
 have e : cs.take (j + 1) = cs.take j ++ [c] := by rw [List.take_add_one, h]; rfl
 unfold runP
 rw [e, List.foldl_append]
 exact Iff.rfl
theorem runP_none {Ar : Int -> Str -> Int -> Prop} {i : Int} {cs ds : List Nat} (h : ∀ b, ¬ runP Ar i cs b) : ∀ b, ¬ runP Ar i (cs ++ ds) b := by
 have : ∀ (ds : List Nat) (S : Int -> Prop), (∀ b, ¬ S b) -> ∀ b, ¬ (ds.foldl (fun S c => stepP Ar ⟨#[c]⟩ S) S) b := by
  intro ds
  induction ds with
  | nil => intro S h b; exact h b
  | cons c ds ih =>
   intro S h b
   exact ih _ (fun b ⟨c', ⟨a, ha, _⟩, _⟩ => h a ha) b
 intro b
 unfold runP
 rw [List.foldl_append]
 exact this ds _ h b
variable {prog : Program} {w : World} {p : Program} {loose : List Str} {mean : ExcName -> Option Value} {mg mb : Str -> Option Value} {hz0 hq : Heap}
variable {s : Shared} {dp un : Nat} {fr : List Env} {gd : Option (List Code)} {R : Result -> Shared -> Prop}
variable {x dx t f : Addr} {i : Int} {Ar : Int -> Str -> Int -> Prop} {Fin : Int -> Prop} {t1 t2 t3 ti : Tok} {n : Nat}
theorem n_accept {word : Str} {tw : Tok} (H : Base (hd.heap_1 w.params) p loose mean mg mb hz0) (hk : ∀ b o, hz0.get? b = some o -> s.heap.get? b = some o)
  (V : NfaAt prog w hz0 hq s.heap x i Ar Fin dx t f t1 t2 t3 ti n) {U : Int -> Prop} (hU : Small U i Ar)
  (hd1 : dp + 19 < recursionLimit) (hu : un + 80 < cLine)
  (hR : ∀ h' tk dr b, (∀ b o, s.heap.get? b = some o -> h'.get? b = some o) -> (b = true ↔ ∃ a, runP Ar i word.cps.toList a /\ Fin a) -> R (.ok (.ret (.bool b))) { s with heap := h', toks := tk, drawn := dr }) :
  codeAny (model prog w) (A0 dp un fr gd) (.call (.ref 128) ⟨[.ref x, .str word tw], []⟩) R s := by
 have hN := V.led
 refine' enter _ ?kH ?kk ?kN ?ko ?kcd ?kroom ?kb ?kl ?c2 ?c3 ?c4 ?c5 ?_
 case kH => assumption
 case kk => assumption
 case kN => assumption
 case ko => k_dflt k_is
 case kcd => k_dflt k_is
 case kroom => exact Nat.lt_of_le_of_lt (Nat.le_add_right _ _) (by assumption)
 case kb => exact binds_K (H.X.keeps hk) rfl (by k_dflt k_is) rfl rfl rfl
 case kl => exact locs rfl
 case c2 => exact rfl
 case c3 => exact rfl
 case c4 => exact rfl
 case c5 => decide
 k_whole
 intro g hz1 Hg Hs Hk F N X T
 (try dsimp only)
 (try k_fold)
 have tkg := tk_hide Hg (fun q hq => (hN q hq).1) V.ledT
 have subg := sub_hide Hg V.sub V.ledQ
 o_steps
 have sub0 := sub_hide Hg hk (fun q hq => (hN q hq).2)
 have V1 := V.now F N subg (by k_mem) (by k_mem)
 try dsimp only [List.append_nil]
 refine wpAny_call ?_
 refine n_start H ?_ V1 hU ?_ ?_ fun h2 tk2 dr2 r2 ns hk2 hr2 ht2 hpw hnd hm => ?_
 ·exact fun b o e => F.keep _ _ (sub0 b o e)
 ·exact (rmL hd1 rfl : dp + 10 < recursionLimit)
 ·exact (rmL hu rfl : un + 43 < cLine)
 refine x12 ht2.toO fun o2 ho2 TI2 => ?_
 have Fz2 := fr_stay F hk2
 have Nz2 := news_cons (news_stay N hk2) ho2 (fresh_off F hr2).1 (fresh_off F hr2).2
 clear F N V1
 try dsimp only
 o_steps
 (rename Fr _ _ _ _ => Fz3; rename News _ _ _ _ => Nz3; try rename Heap => hz3)
 refine For_my (hs := fun _ => rfl) (ht := fun _ _ => rfl) g ?_
 o_steps
 refine iter_str (fun j m news h => Chu (fun G => ∀ r o ns, m (Str.ofString "self") = some (.ref x) -> m (Str.ofString "state") = some (.ref r) -> TIo o ns -> ns.length ≤ 7 -> (∀ b, b ∈ ns ↔ runP Ar i (word.cps.toList.take j) b) -> G [(r, o), (x, instObj 229 dx), (dx, nfaD w t f (.int i ti) t1 t2 t3 n)]) news) rfl Fz3 Nz3 ?_ ?_ ?_ ?_
 ·exact fun _ k9 => k9 r2 o2 ns rfl rfl TI2 (hU.len ns hnd fun k hk => clos_U (l := [i]) (fun a ha => by simp at ha; subst ha; exact hU.init) hU.arc ((hm k).mp hk)) fun b => by rw [hm]; exact Iff.rfl
 ·exact fun _ _ _ _ _ hJ _ => hJ
 ·rintro I j c tv mz1 news1 hz4 tk dr own hjc q86; refine Chu.out q86 ?_; intro r o ns m1 m2 TI hle hl hav hown F4 N4 q87; refine x11 q87 fun oI hIo => ?_
  have F4 := fr_put (Str.ofString "self") (fr_put (Str.ofString "state") F4 m2) (by exact m1)
  dsimp only [List.cons_append, List.nil_append] at N4
  refine wpAny_assign_Name ?_
  o_steps
  (rename Fr _ _ _ _ => F5; rename News _ _ _ _ => N5; try rename Heap => hz5)
  have V5 := V.now F5 N5 subg (by k_mem) (by k_mem)
  refine wpAny_call ?_
  refine n_next (ns := ns) H ?_ V5 hU ?_ ?_ ?_ fun h6 tk6 dr6 r6 ms hk6 hr6 ht6 hpw6 hnd6 hm6 => ?_
  ·exact fun b o e => F5.keep _ _ (sub0 b o e)
  ·exact TI.at (N5.get (by k_mem))
  ·exact (rmL hd1 rfl : dp + 10 < recursionLimit)
  ·exact (rmL hu rfl : un + 43 < cLine)
  refine x12 ht6.toO fun o6 ho6 TI6 => ?_
  have F6 := fr_stay F5 hk6
  have N6 := news_cons (news_stay N5 hk6) ho6 (fresh_off F5 hr6).1 (fresh_off F5 hr6).2
  have r6I : r6 ≠ I := ne_get (N5.get (a := I) (o := oI) (List.Mem.tail _ (List.Mem.tail _ (List.Mem.tail _ hIo)))) hr6
  clear F5 N5 V5
  have hms : ∀ b, b ∈ ms ↔ runP Ar i (word.cps.toList.take (j + 1)) b := fun b => by
   rw [runP_succ (by rw [Array.getElem?_toList]; exact hjc), hm6]
   exact ⟨fun ⟨c', ⟨a, ha, q⟩, r⟩ => ⟨c', ⟨a, (hl a).mp ha, q⟩, r⟩, fun ⟨c', ⟨a, ha, q⟩, r⟩ => ⟨c', ⟨a, (hl a).mpr ha, q⟩, r⟩⟩
  have hle6 : ms.length ≤ 7 := hU.len ms hnd6 fun k hk => by
   refine x12 ((hm6 k).mp hk) fun c' hc' r => ?_
   exact star_U hU (move_U hU hc') r
  try dsimp only
  o_steps
  (rename Fr _ _ _ _ => F7; rename News _ _ _ _ => N7; try rename Heap => hz7)
  refine truthy_tupI (ns := ms) ?_ (Nat.le_trans hle6 (by decide)) fun tk7 => ?_
  ·exact TI6.at (N7.get (by k_mem))
  cases ms with
  | nil =>
   simp only [List.isEmpty_nil, Bool.not_true]
   o_steps
   try dsimp only [StepMy]
   o_steps
   have V5 := V.now F7 N7 subg (by k_mem) (by k_mem)
   refine wpAny_call ?_
   refine n_is_final (ns := []) H ?_ V5 ?_ ?_ ?_ fun h9 tk9 dr9 b hk9 hb9 => ?_
   ·exact fun b o e => F7.keep _ _ (sub0 b o e)
   ·exact TI6.at (N7.get (by k_mem))
   ·exact (rmL hd1 rfl : dp + 6 < recursionLimit)
   ·exact (rmL hu rfl : un + 23 < cLine)
   try dsimp only
   have ka := keep_all F7 N7 Hg hN (by k_mem) (by k_mem)
   refine hR _ _ _ b (fun b o e => hk9 _ _ (ka b o e)) ?_
   rw [hb9]
   have hno := runP_none (ds := word.cps.toList.drop (j + 1)) fun b hb => by have := (hms b).mpr hb; cases this
   rw [List.take_append_drop] at hno
   exact ⟨fun q814 => x12 q814 fun a h1 _ => (nomatch h1), fun q815 => x12 q815 fun a h1 _ => absurd h1 (hno a)⟩
  | cons a0 ms0 =>
   simp only [List.isEmpty_cons, Bool.not_false]
   o_steps
   refine (fun _ k9 => k9 _ _ _ _ ([(r6, o6), (x, instObj 229 dx), (dx, nfaD w t f (.int i ti) t1 t2 t3 n)]) F7 (fun q hq' => ?_) ?_ (fun _ k9 => k9 r6 o6 (a0 :: ms0) rfl rfl TI6 hle6 hms))
   ·rcases List.mem_cons.mp hq' with rfl | hq'
    ·exact N7 _ (List.Mem.head _)
    ·exact N7 _ (List.Mem.tail _ (List.Mem.tail _ hq'))
   ·intro q hq'
    rcases List.mem_cons.mp hq' with rfl | hq'
    ·simpa using r6I
    ·exact hav q (List.mem_cons_of_mem _ hq')
 ·rintro mz1 news1 hz4 tk dr q89; refine Chu.out q89 ?_; intro r o ns m1 m2 TI hle hl F4 N4
  have F4 := fr_put (Str.ofString "self") (fr_put (Str.ofString "state") F4 m2) (by exact m1)
  try dsimp only
  o_steps
  have FX := F4
  have NX := N4
  have V5 := V.now FX NX subg (by k_mem) (by k_mem)
  refine wpAny_call ?_
  refine n_is_final (ns := ns) H ?_ V5 ?_ ?_ ?_ fun h9 tk9 dr9 b hk9 hb9 => ?_
  ·exact fun b o e => FX.keep _ _ (sub0 b o e)
  ·exact TI.at (NX.get (by k_mem))
  ·exact (rmL hd1 rfl : dp + 6 < recursionLimit)
  ·exact (rmL hu rfl : un + 23 < cLine)
  try dsimp only
  have ka := keep_all FX NX Hg hN (by k_mem) (by k_mem)
  refine hR _ _ _ b (fun b o e => hk9 _ _ (ka b o e)) ?_
  rw [hb9]
  have e : word.cps.toList.take word.cps.size = word.cps.toList := by rw [← Array.length_toList, List.take_length]
  rw [e] at hl
  exact ⟨fun q816 => x12 q816 fun a h1 h2 => ⟨a, (hl a).mp h1, h2⟩, fun q817 => x12 q817 fun a h1 h2 => ⟨a, (hl a).mpr h1, h2⟩⟩
end
-- NOwn
section
open PySem PySem.W PyProof.Rows PySem.Calls
open Classical in
noncomputable def only (h : Heap) (P : Addr -> Prop) : Heap := hideAll h ((List.range h.objs.size).filter fun a => decide (¬ P a))
theorem only_get {h : Heap} {P : Addr -> Prop} {b : Addr} {o : Obj} (e : h.get? b = some o) (p : P b) : (only h P).get? b = some o :=
 hideAll_get _ e fun q => by
  have := (List.mem_filter.mp q).2
  simp at this
  exact this p
theorem of_only {h : Heap} {P : Addr -> Prop} {b : Addr} {o : Obj} (e : (only h P).get? b = some o) : h.get? b = some o /\ P b := by
 refine ⟨of_hideAll _ e, ?_⟩
 by_cases p : P b
 ·exact p
 ·have hb := Heap.lt_size (of_hideAll _ e)
  have : (only h P).get? b = none := hideAll_none _ (List.mem_filter.mpr ⟨List.mem_range.mpr hb, by simpa using p⟩)
  rw [this] at e; cases e
theorem only_none {h : Heap} {P : Addr -> Prop} {b : Addr} (p : ¬ P b) : (only h P).get? b = none := by
 cases e : (only h P).get? b with
 | none => rfl
 | some o => exact absurd (of_only e).2 p
structure TrOwn (prog : Program) (w : World) (h : Heap) (P : Addr -> Prop) (t : Addr) (Ar : Int -> Str -> Int -> Prop) (l : List (Int × Value)) (dOf : Int -> Addr) (lOf : Int -> List (Str × Value)) (sOf : Int -> Str -> Addr) : Prop where
 top : DictAt (dInt prog w) h t l
 pt : P t
 val : ∀ a v, (a, v) ∈ l -> v = .ref (dOf a)
 inn : ∀ a, a ∈ l.map (·.1) -> DictAt (dStr prog w) h (dOf a) (lOf a) /\ P (dOf a) /\ ∃ lab b, Ar a lab b
 sval : ∀ a, a ∈ l.map (·.1) -> ∀ lab u, (lab, u) ∈ lOf a -> u = .ref (sOf a lab)
 set : ∀ a, a ∈ l.map (·.1) -> ∀ lab, lab ∈ (lOf a).map (·.1) -> P (sOf a lab) /\ ∃ xs, SetAt (skInt prog w) 7 h (sOf a lab) xs /\ xs ≠ [] /\ ∀ b, b ∈ xs ↔ Ar a lab b
 has : ∀ a lab b, Ar a lab b -> a ∈ l.map (·.1) /\ lab ∈ (lOf a).map (·.1)
 dinj : ∀ a a', a ∈ l.map (·.1) -> a' ∈ l.map (·.1) -> dOf a = dOf a' -> a = a'
 dne : ∀ a, a ∈ l.map (·.1) -> dOf a ≠ t
 sinj : ∀ a a' lab lab', a ∈ l.map (·.1) -> a' ∈ l.map (·.1) -> lab ∈ (lOf a).map (·.1) -> lab' ∈ (lOf a').map (·.1) -> sOf a lab = sOf a' lab' -> a = a' /\ lab = lab'
section
variable {prog : Program} {w : World} {h h' : Heap} {P : Addr -> Prop} {t : Addr} {Ar : Int -> Str -> Int -> Prop} {l : List (Int × Value)} {dOf : Int -> Addr} {lOf : Int -> List (Str × Value)} {sOf : Int -> Str -> Addr}
theorem keep_d {K : Type} [DecidableEq K] {dk : DKind prog w K} (hf : ∀ h h' k v, dk.is h k v -> dk.is h' k v) {d : Addr} {ld : List (K × Value)} (D : DictAt dk h d ld) (e : ∀ o, h.get? d = some o -> h'.get? d = some o) : DictAt dk h' d ld := by
 obtain ⟨hs, es, ep, ho, hE, hn⟩ := D
 exact ⟨hs, es, ep, e _ ho, hE.mono fun k v hv => hf _ _ _ _ hv, hn⟩
theorem keep_dI {d : Addr} {ld : List (Int × Value)} (D : DictAt (dInt prog w) h d ld) (e : ∀ o, h.get? d = some o -> h'.get? d = some o) : DictAt (dInt prog w) h' d ld := keep_d (fun _ _ _ _ x => x) D e
theorem keep_dS {d : Addr} {ld : List (Str × Value)} (D : DictAt (dStr prog w) h d ld) (e : ∀ o, h.get? d = some o -> h'.get? d = some o) : DictAt (dStr prog w) h' d ld := keep_d (fun _ _ _ _ x => x) D e
theorem TrOwn.move {P' : Addr -> Prop} (O : TrOwn prog w h P t Ar l dOf lOf sOf) (k : ∀ b o, P b -> h.get? b = some o -> h'.get? b = some o) (hp : ∀ b, P b -> P' b) : TrOwn prog w h' P' t Ar l dOf lOf sOf where
 top := keep_dI O.top fun o e => k _ o O.pt e
 pt := hp _ O.pt
 val := O.val
 inn := fun a ha => ⟨keep_dS (O.inn a ha).1 fun o e => k _ o (O.inn a ha).2.1 e, hp _ (O.inn a ha).2.1, (O.inn a ha).2.2⟩
 sval := O.sval
 set := fun a ha lab hl => by
  obtain ⟨p, xs, S, r⟩ := O.set a ha lab hl
  exact ⟨hp _ p, xs, keep_int S fun o e => k _ o p e, r⟩
 has := O.has
 dinj := O.dinj
 dne := O.dne
 sinj := O.sinj
theorem TrOwn.rel (O : TrOwn prog w h P t Ar l dOf lOf sOf) : TrRel prog w (only h P) t Ar := by
 refine ⟨l, keep_dI O.top fun o e => only_get e O.pt, fun a v hv => ?_, fun a lab b hb => (O.has a lab b hb).1⟩
 have ha : a ∈ l.map (·.1) := keyIn hv
 refine x03 (O.inn a ha) fun D p r => ?_
 rw [O.val a v hv]
 refine ⟨dOf a, lOf a, keep_dS D fun o e => only_get e p, r, fun lab u hu => ?_, fun lab b hb => (O.has a lab b hb).2⟩
 have ⟨p', xs, S, r'⟩ := O.set a ha lab (keyIn hu)
 rw [O.sval a ha lab u hu]
 exact ⟨sOf a lab, xs, keep_int S fun o e => only_get e p', r'.1, r'.2⟩
theorem TrOwn.put {src : Int} {label : Str} {dest : Int} {d sa : Addr} {l' : List (Int × Value)} {li' : List (Str × Value)} {xs' : List Int} {P' : Addr -> Prop} (O : TrOwn prog w h P t Ar l dOf lOf sOf)
  (h1 : DictAt (dInt prog w) h' t l') (h2 : ∀ a v, (a, v) ∈ l' ↔ (a = src /\ v = .ref d) ∨ (a ≠ src /\ (a, v) ∈ l))
  (h3 : DictAt (dStr prog w) h' d li') (h4 : ∀ lab u, (lab, u) ∈ li' ↔ (lab = label /\ u = .ref sa) ∨ (lab ≠ label /\ src ∈ l.map (·.1) /\ (lab, u) ∈ lOf src))
  (h5 : SetAt (skInt prog w) 7 h' sa xs') (h6 : ∀ b, b ∈ xs' ↔ b = dest ∨ Ar src label b)
  (hp : ∀ b, P b -> P' b) (pd : P' d) (ps : P' sa) (hdt : d ≠ t)
  (d1 : src ∈ l.map (·.1) -> d = dOf src) (d2 : src ∉ l.map (·.1) -> ∀ a ∈ l.map (·.1), dOf a ≠ d)
  (s2 : ∀ a ∈ l.map (·.1), ∀ lab ∈ (lOf a).map (·.1), sOf a lab = sa -> a = src /\ lab = label)
  (k : ∀ b o, P b -> b ≠ t -> b ≠ d -> b ≠ sa -> h.get? b = some o -> h'.get? b = some o) (hsa : ∀ o, h.get? sa = some o -> o.cls = .type "set") (hdd : ∀ o, h.get? d = some o -> o.cls = .type "dict") :
  TrOwn prog w h' P' t (fun a lab b => Ar a lab b ∨ (a = src /\ lab = label /\ b = dest)) l' (fun a => if a = src then d else dOf a) (fun a => if a = src then li' else lOf a) (fun a lab => if a = src /\ lab = label then sa else sOf a lab) := by
 have keys := kvKeys h2
 have lkeys := kvKeysS h4
 have noSet : ∀ {K : Type} [DecidableEq K] {dk : DKind prog w K} {b ld}, DictAt dk h b ld -> b ≠ sa := fun D q => D.exP fun o e c => by
  rw [hsa o (q ▸ e)] at c; exact absurd c (by decide)
 have noD : ∀ {b lx}, SetAt (skInt prog w) 7 h b lx -> b ≠ d := fun S q => S.exP fun o e c => by
  rw [hdd o (q ▸ e)] at c; exact absurd c (by decide)
 have noT : ∀ {b lx}, SetAt (skInt prog w) 7 h b lx -> b ≠ t := fun S q => S.exP fun o e c => O.top.exP fun o' e' c' => by
  rw [q, e'] at e; cases e
  rw [c'] at c; exact absurd c (by decide)
 have nd : ∀ a, a ≠ src -> a ∈ l.map (·.1) -> dOf a ≠ d := fun a e r => by
  by_cases hs : src ∈ l.map (·.1)
  ·rw [d1 hs]; exact fun q => e (O.dinj _ _ r hs q)
  ·exact d2 hs a r
 have old : ∀ a lab, a ∈ l'.map (·.1) -> lab ∈ (if a = src then li' else lOf a).map (·.1) -> ¬ (a = src /\ lab = label) -> a ∈ l.map (·.1) /\ lab ∈ (lOf a).map (·.1) := fun a lab ha hl q => by
  by_cases e : a = src
  ·rw [if_pos e] at hl
   have r := ((lkeys lab).mp hl).resolve_left fun e' => q ⟨e, e'⟩
   exact e ▸ r.2
  ·rw [if_neg e] at hl
   exact ⟨(((keys a).mp ha).resolve_left e).2, hl⟩
 refine ⟨h1, hp _ O.pt, fun a v hv => ?_, fun a ha => ?_, fun a ha lab u hu => ?_, fun a ha lab hl => ?_, fun a lab b hb => ?_, fun a a' ha ha' e => ?_, fun a ha => ?_, fun a a' lab lab' ha ha' hl hl' e => ?_⟩
 ·exact ((h2 a v).mp hv).elim (fun r => r.2.trans (congrArg Value.ref (if_pos r.1).symm)) fun r => (O.val a v r.2).trans (congrArg Value.ref (if_neg r.1).symm)
 ·by_cases e : a = src
  ·rw [if_pos e, if_pos e]
   exact ⟨h3, pd, label, dest, .inr ⟨e, rfl, rfl⟩⟩
  ·rw [if_neg e, if_neg e]
   have r := (((keys a).mp ha).resolve_left e).2
   have ⟨D, p, lab, b, r'⟩ := O.inn a r
   exact ⟨keep_dS D fun o eo => k _ o p (O.dne a r) (nd a e r) (noSet D) eo, hp _ p, lab, b, .inl r'⟩
 ·by_cases e : a = src
  ·rw [if_pos e] at hu
   exact ((h4 lab u).mp hu).elim (fun r => r.2.trans (congrArg Value.ref (if_pos ⟨e, r.1⟩).symm)) fun r => ((e ▸ O.sval src r.2.1 lab u r.2.2 : u = .ref (sOf a lab))).trans (congrArg Value.ref (if_neg fun q => r.1 q.2).symm)
  ·rw [if_neg e] at hu
   exact (O.sval a (((keys a).mp ha).resolve_left e).2 lab u hu).trans (congrArg Value.ref (if_neg fun q => e q.1).symm)
 ·by_cases q : a = src /\ lab = label
  ·rw [if_pos q]
   refine ⟨ps, xs', h5, List.ne_nil_of_mem ((h6 dest).mpr (.inl rfl)), fun b => (h6 b).trans ?_⟩
   rw [q.1, q.2]
   exact ⟨fun q => q.elim (fun q => .inr ⟨rfl, rfl, q⟩) .inl, fun q => q.elim .inr fun q => .inl q.2.2⟩
  ·rw [if_neg q]
   have r := old a lab ha hl q
   have ⟨p, xs, S, hne, hm⟩ := O.set a r.1 lab r.2
   exact ⟨hp _ p, xs, keep_int S fun o eo => k _ o p (noT S) (noD S) (fun e => q (s2 a r.1 lab r.2 e)) eo, hne, fun b => (hm b).trans ⟨.inl, fun h => h.elim id fun h => absurd ⟨h.1, h.2.1⟩ q⟩⟩
 ·by_cases q : a = src /\ lab = label
  ·rw [if_pos q.1]
   exact ⟨(keys a).mpr (.inl q.1), (lkeys lab).mpr (.inl q.2)⟩
  ·have r := O.has a lab b (hb.resolve_right fun h => q ⟨h.1, h.2.1⟩)
   by_cases e : a = src
   ·rw [if_pos e]
    exact ⟨(keys a).mpr (.inl e), (lkeys lab).mpr (.inr ⟨fun e' => q ⟨e, e'⟩, e ▸ r⟩)⟩
   ·rw [if_neg e]
    exact ⟨(keys a).mpr (.inr ⟨e, r.1⟩), r.2⟩
 ·by_cases e1 : a = src <;> by_cases e2 : a' = src
  ·exact e1.trans e2.symm
  ·rw [if_pos e1, if_neg e2] at e; exact absurd e.symm (nd a' e2 (((keys a').mp ha').resolve_left e2).2)
  ·rw [if_neg e1, if_pos e2] at e; exact absurd e (nd a e1 (((keys a).mp ha).resolve_left e1).2)
  ·rw [if_neg e1, if_neg e2] at e; exact O.dinj _ _ (((keys a).mp ha).resolve_left e1).2 (((keys a').mp ha').resolve_left e2).2 e
 ·by_cases e : a = src
  ·rw [if_pos e]; exact hdt
  ·rw [if_neg e]; exact O.dne a (((keys a).mp ha).resolve_left e).2
 ·by_cases q : a = src /\ lab = label <;> by_cases q' : a' = src /\ lab' = label
  ·exact ⟨q.1.trans q'.1.symm, q.2.trans q'.2.symm⟩
  ·rw [if_pos q, if_neg q'] at e
   have r := old a' lab' ha' hl' q'
   exact absurd (s2 a' r.1 lab' r.2 e.symm) q'
  ·rw [if_neg q, if_pos q'] at e
   have r := old a lab ha hl q
   exact absurd (s2 a r.1 lab r.2 e) q
  ·rw [if_neg q, if_neg q'] at e
   have r := old a lab ha hl q
   have r' := old a' lab' ha' hl' q'
   exact O.sinj a a' lab lab' r.1 r'.1 r.2 r'.2 e
end
end
-- DictOps
section
open PySem PySem.W PyProof.Rows PySem.Calls PySem.Spec
section
variable {prog : Program} {w : World} {K : Type} [DecidableEq K] {dk : DKind prog w K} {A : Around} {E : Value -> Shared -> Prop} {s : Shared} {d : Addr} {l : List (K × Value)} {k : K} {x dflt : Value}
theorem setdefault_old {v : Value} {Q : Value -> Shared -> Prop} (D : DictAt dk s.heap d l) (hu : A.in1.units < cLine) (hx : dk.is s.heap k x) (hv : (k, v) ∈ l) (h : ∀ tk, Q v { s with toks := tk }) :
  wpAny (model prog w) A (call (.builtin "dict.setdefault") [.ref d, x, dflt]) Q E s := by
 have hT := D.typeIs
 have hs := D.1
 refine wpAny_call_entry PySem.F.slot_dict_setdefault D.typeIs PySem.F.entry_dict_setdefault ?_ (PySem.F.args_dict_setdefault_3 _ _ _)
 unfold Builtin.«dict.setdefault»
 refine wpAny_bind ?_
 unfold Builtin.Dict.keyAndDefault
 refine wpAny_bind (wpAny_notOrdered_dict D.typeIs ?_)
 show wpAny _ _ (pure (d, x, some dflt)) _ _ s
 refine wpAny_pure ?_
 show wpAny _ _ (if (d == sysModules) = true then _ else (dictSetDefault d x dflt >>= _)) _ _ s
 rw [if_neg (by simpa using hs)]
 obtain ⟨_, es, ep, ho, hE, hn⟩ := D
 unfold dictSetDefault
 try with_reducible refine wpAny_bind (wpAny_holding ?_)
 refine wpAny_bind (dk.pyHash hu hx fun tk => wpAny_bind (dk.find (s := { s with toks := tk }) hu hx ho rfl hE hn (fun h' => absurd (List.mem_map.mpr ⟨_, hv, rfl⟩) h') fun i v' hi => ?_))
 dsimp only
 refine wpAny_bind (wpAny_dictEntries (s := { s with toks := tk }) ho rfl ?_)
 rcases hE.get i with ⟨_, q⟩ | ⟨e, k', q1, q2, _, _⟩
 ·rw [hi] at q; cases q
 ·rw [Array.getElem?_toList] at q1
  rw [hi] at q2
  injection q2 with q2
  injection q2 with _ q2
  rw [q1]
  refine wpAny_bind (wpAny_rule (wpAny_pure (wpAny_pure ⟨_, rfl, ?_⟩)))
  rw [← q2, mem_unique hn (List.mem_of_getElem? hi) hv]
  exact h tk
theorem setdefault_new {Q : Value -> Shared -> Prop} (D : DictAt dk s.heap d l) (hu : A.in1.units < cLine) (hx : dk.is s.heap k x) (hk : k ∉ l.map (·.1)) (hsz : l.length ≤ sizeLine)
  (h : ∀ h' tk, DictAt dk h' d (l ++ [(k, dflt)]) -> Heap.SameBut d s.heap h' -> Q dflt { s with heap := h', toks := tk }) :
  wpAny (model prog w) A (call (.builtin "dict.setdefault") [.ref d, x, dflt]) Q E s := by
 have D' := D
 have hT := D.typeIs
 have hs := D.1
 refine wpAny_call_entry PySem.F.slot_dict_setdefault D.typeIs PySem.F.entry_dict_setdefault ?_ (PySem.F.args_dict_setdefault_3 _ _ _)
 unfold Builtin.«dict.setdefault»
 refine wpAny_bind ?_
 unfold Builtin.Dict.keyAndDefault
 refine wpAny_bind (wpAny_notOrdered_dict D.typeIs ?_)
 show wpAny _ _ (pure (d, x, some dflt)) _ _ s
 refine wpAny_pure ?_
 show wpAny _ _ (if (d == sysModules) = true then _ else (dictSetDefault d x dflt >>= _)) _ _ s
 rw [if_neg (by simpa using hs)]
 obtain ⟨_, es, ep, ho, hE, hn⟩ := D
 have hlen := hE.length
 rw [Array.length_toList] at hlen
 unfold dictSetDefault
 try with_reducible refine wpAny_bind (wpAny_holding ?_)
 refine wpAny_bind (dk.pyHash hu hx fun tk => wpAny_bind (dk.find (s := { s with toks := tk }) hu hx ho rfl hE hn (fun _ => ?_) fun i v' hi => absurd (List.mem_map.mpr ⟨_, List.mem_of_getElem? hi, rfl⟩) hk))
 dsimp only
 refine wpAny_bind (wpAny_rule (wpAny_bind (wpAny_updateDictKeys (s := { s with toks := tk }) (hz := by rw [hlen]; exact hsz) ho rfl ?_)))
 have hs' := Heap.SameBut.update s.heap d (Obj.mapDictKeys (·.push ⟨dk.hash k, x, dflt⟩))
 refine wpAny_pure (wpAny_pure ⟨_, rfl, h _ tk ⟨hs, es.push ⟨dk.hash k, x, dflt⟩, ep + 1, Heap.get?_update_self _ ho rfl, ?_, ?_⟩ hs'⟩)
 ·rw [Array.toList_push]
  exact (hE.append (.cons (e := ⟨dk.hash k, x, dflt⟩) rfl hx .nil)).mono fun k v hv => dk.keep hv (D'.tupKeep hs')
 ·have := setV_nodup (k := k) (v := dflt) hn
  rwa [setV, if_neg hk] at this
theorem get2_at {Q : Value -> Shared -> Prop} (D : DictAt dk s.heap d l) (hu : A.in1.units < cLine) (hx : dk.is s.heap k x) (hnone : k ∉ l.map (·.1) -> ∀ tk, Q dflt { s with toks := tk }) (hsome : ∀ v tk, (k, v) ∈ l -> Q v { s with toks := tk }) :
  wpAny (model prog w) A (call (.builtin "dict.get") [.ref d, x, dflt]) Q E s := by
 refine wpAny_call_entry PySem.F.slot_dict_get D.typeIs PySem.F.entry_dict_get ?_ (PySem.F.args_dict_get_3 _ _ _)
 show wpAny _ _ (dictGet d x >>= _) _ _ s
 refine wpAny_bind (dictGet_at D hu hx (fun hk tk => ?_) fun v tk hv => ?_)
 ·show wpAny _ _ (Builtin.Dict.missed d x >>= _) _ _ _
  exact wpAny_bind (dk.missed (s := { s with toks := tk }) hx D.1 (wpAny_pure ⟨dflt, rfl, hnone hk tk⟩))
 ·exact wpAny_pure ⟨v, rfl, hsome v tk hv⟩
end
end
-- SetAdd
section
open PySem PySem.W PyProof.Rows PySem.Calls PySem.Spec
section
variable {prog : Program} {w : World} {K : Type} [DecidableEq K] {sk : SKind prog w K} {lim : Nat} {A : Around} {E : Value -> Shared -> Prop} {s : Shared} {a : Addr} {l : List K} {k : K} {x : Value}
theorem call_add {Q : Value -> Shared -> Prop} (S : SetAt sk lim s.heap a l) (hu : A.in1.units < cLine) (hok : sk.ok k) (hx : sk.is s.heap k x) (hl : k ∉ l -> l.length + 1 ≤ lim)
  (h : ∀ h' tk l', Heap.SameBut a s.heap h' -> (if k ∈ l then l' = l else l'.Perm (k :: l)) -> SetAt sk lim h' a l' -> Q .none { s with heap := h', toks := tk }) :
  wpAny (model prog w) A (call (.builtin "set.add") [.ref a, x]) Q E s := by
 refine wpAny_call_entry PySem.F.slot_set_add S.typeIs PySem.F.entry_set_add ?_ (PySem.F.args_set_add_2 _ _)
 unfold Builtin.«set.add» Builtin.Frozenset.oneOther
 simp only [List.isEmpty_nil, bind_assoc]
 unfold Builtin.Frozenset.addrOf setAdd
 refine wpAny_bind (wpAny_pure ?_)
 try dsimp only
 refine wpAny_bind (wpAny_pure ?_)
 try dsimp only
 refine wpAny_bind ?_
 refine wpAny_holding ?_
 refine wpAny_bind (sk.pyHash hu hx fun tk => ?_)
 refine SetAt.addW (s := { s with toks := tk }) S hu hok hx hl fun h' l' b hs hl' S' => ?_
 show wpAny _ _ (ret Value.none) _ _ _
 exact wpAny_pure ⟨_, rfl, h h' tk l' hs hl' S'⟩
theorem contains_at {Q : Bool -> Shared -> Prop} (S : SetAt sk lim s.heap a l) (hu : A.in1.units < cLine) (hok : sk.ok k) (hx : sk.is s.heap k x) (h : ∀ tk, Q (decide (k ∈ l)) { s with toks := tk }) :
  wpAny (model prog w) A (contains (.ref a) x) Q E s := by
 unfold contains
 try with_reducible refine wpAny_holding ?_
 refine wpAny_bind (wpAny_specialOf S.typeIs PySem.F.slot_set_contains.lookup ?_)
 show wpAny _ _ (if (some (Value.builtin "set.__contains__") == some Value.none) = true then _ else _) _ E s
 refine wpAny_ite_false (decide_eq_false (by rw [beq_builtin_none]; exact Bool.false_ne_true)) ?_
 refine wpAny_bind (wpAny_callSpecialUnlessNone?_slot (name := Str.ofString "__contains__") S.typeIs PySem.F.slot_set_contains
  (wpAny_call_entry PySem.F.slot_set_contains S.typeIs entry_set_contains ?_ (PySem.F.args_set_contains_2 _ _)))
 unfold Builtin.«frozenset.__contains__» Builtin.Frozenset.oneOther
 simp only [List.isEmpty_nil, bind_assoc]
 unfold Builtin.Frozenset.addrOf Builtin.Frozenset.withSetAsKey setContains
 refine wpAny_bind (wpAny_pure ?_)
 try dsimp only
 refine wpAny_bind (wpAny_pure ?_)
 try dsimp only
 refine wpAny_bind (wpAny_tryCatch ?_)
 refine wpAny_holding ?_
 refine wpAny_bind (sk.pyHash hu hx fun tk => ?_)
 refine wpAny_bind (SetAt.findH (s := { s with toks := tk }) S hu hok hx fun r hr => ?_)
 refine wpAny_pure ?_
 show wpAny _ _ (ret (Value.bool r.isSome)) _ _ _
 have e : r.isSome = decide (k ∈ l) := by
  by_cases q : k ∈ l
  ·rw [hr.mpr q, decide_eq_true q]
  ·rw [decide_eq_false q]
   cases r with
   | none => rfl
   | some _ => exact absurd (hr.mp rfl) q
 rw [e]
 exact wpAny_pure ⟨_, rfl, wpAny_truthy_bool (h tk)⟩
theorem in_set {Q : Value -> Shared -> Prop} (S : SetAt sk lim s.heap a l) (hu : A.in1.units < cLine) (hok : sk.ok k) (hx : sk.is s.heap k x) (h : ∀ tk, Q (.bool (decide (k ∈ l))) { s with toks := tk }) :
  wpAny (model prog w) A (compareOp .In x (.ref a)) Q E s := by
 show wpAny _ _ (do return .bool (← contains (.ref a) x)) Q E s
 exact wpAny_bind (contains_at S hu hok hx fun tk => wpAny_pure (h tk))
theorem notIn_set {Q : Value -> Shared -> Prop} (S : SetAt sk lim s.heap a l) (hu : A.in1.units < cLine) (hok : sk.ok k) (hx : sk.is s.heap k x) (h : ∀ tk, Q (.bool (!decide (k ∈ l))) { s with toks := tk }) :
  wpAny (model prog w) A (compareOp .NotIn x (.ref a)) Q E s := by
 show wpAny _ _ (do return .bool !(← contains (.ref a) x)) Q E s
 exact wpAny_bind (contains_at S hu hok hx fun tk => wpAny_pure (h tk))
end
end
-- DfaD
section
open PySem PySem.W PyProof.Rows PySem.Calls
theorem news_tail {g h : Heap} {L : Addr} {q : Addr × Obj} {news : List (Addr × Obj)} (N : News g L h (q :: news)) : News g L h news := fun r hr => N r (List.Mem.tail _ hr)
theorem SetAt.empty_at {prog : Program} {w : World} {K : Type} [DecidableEq K] {sk : SKind prog w K} {lim : Nat} {h h' : Heap} {a : Addr} {o : Obj} (S : SetAt sk lim h a []) (e : h.get? a = some o) (e' : h'.get? a = some o) : SetAt sk lim h' a [] := by
 obtain ⟨o', es, t, ho, b, hK, hn, hok, r⟩ := S
 rw [e] at ho; cases ho
 have he : es.toList = [] := List.eq_nil_of_length_eq_zero (by have := hK.1; simpa using this)
 exact ⟨o, es, t, e', b, by rw [he]; exact KeysAre.nil, hn, hok, r⟩
structure KK (prog : Program) (w : World) (K : Type) [DecidableEq K] where
 dk : DKind prog w K
 sk : SKind prog w K
 same : ∀ h k v, sk.is h k v ↔ dk.is h k v
 uniq : ∀ h k k' v, dk.is h k v -> dk.is h k' v -> k = k'
noncomputable def kkInt (prog : Program) (w : World) : KK prog w Int where
 dk := dInt prog w
 sk := skInt prog w
 same := fun _ _ _ => Iff.rfl
 uniq := by
  rintro h k k' v q87 q88; refine x11 q87 fun t q89 => ?_; subst q89; refine x11 q88 fun t' e => ?_
  cases e; rfl
noncomputable def kkTup (prog : Program) (w : World) (dom : List Int -> Prop) (hdom : ∀ x y, dom x -> dom y -> thash x = thash y -> x = y) : KK prog w (List Int) where
 dk := dTup prog w
 sk := skTup prog w dom hdom
 same := fun _ _ _ => Iff.rfl
 uniq := by
  rintro h k k' v q810 q811; refine x12 q810 fun b q812 x => ?_; subst q812; refine x12 q811 fun b' e y => ?_
  cases e
  exact x.inj y
noncomputable abbrev dfaD (w : World) (v0 : Value) (t e f ol : Addr) (t1 t2 t3 t4 t5 : Tok) (n : Nat) : Obj :=
 dictOf [⟨PyData.keyHash w.params (Str.ofString "initial"), .str (Str.ofString "initial") t1, v0⟩,
  ⟨PyData.keyHash w.params (Str.ofString "transitions"), .str (Str.ofString "transitions") t2, .ref t⟩,
  ⟨PyData.keyHash w.params (Str.ofString "defaults"), .str (Str.ofString "defaults") t3, .ref e⟩,
  ⟨PyData.keyHash w.params (Str.ofString "final_states"), .str (Str.ofString "final_states") t4, .ref f⟩,
  ⟨PyData.keyHash w.params (Str.ofString "outlabels"), .str (Str.ofString "outlabels") t5, .ref ol⟩] n
structure DLay (K : Type) where
 dx : Addr
 t : Addr
 e : Addr
 f : Addr
 ol : Addr
 v0 : Value
 t1 : Tok
 t2 : Tok
 t3 : Tok
 t4 : Tok
 t5 : Tok
 n : Nat
 l : List (K × Value)
 le : List (K × Value)
 dOf : K -> Addr
 lOf : K -> List (Str × Value)
structure DMod (K : Type) where
 k0 : K
 tr : K -> Str -> Option K
 df : K -> Option K
 fin : K -> Prop
 gk : K -> Prop
 gl : Str -> Prop
noncomputable abbrev DLay.obj {K : Type} (w : World) (Y : DLay K) : Obj := dfaD w Y.v0 Y.t Y.e Y.f Y.ol Y.t1 Y.t2 Y.t3 Y.t4 Y.t5 Y.n
structure DfaM {prog : Program} {w : World} {K : Type} [DecidableEq K] (kk : KK prog w K) (hz0 : Heap) (P : Addr -> Prop) (h : Heap) (x : Addr) (Y : DLay K) (M : DMod K) : Prop where
 ox : h.get? x = some (instObj 327 Y.dx)
 od : h.get? Y.dx = some (Y.obj w)
 x0 : hz0.get? x = none
 d0 : hz0.get? Y.dx = none
 p0 : ∀ b, P b -> hz0.get? b = none
 px : ¬ P x
 pd : ¬ P Y.dx
 pa : ∀ b, P b -> ∃ o, h.get? b = some o
 vi : kk.dk.is h M.k0 Y.v0
 top : DictAt kk.dk h Y.t Y.l
 pt : P Y.t
 val : ∀ a v, (a, v) ∈ Y.l -> v = .ref (Y.dOf a)
 inn : ∀ a, a ∈ Y.l.map (·.1) -> DictAt (dStr prog w) h (Y.dOf a) (Y.lOf a) /\ P (Y.dOf a)
 sval : ∀ a, a ∈ Y.l.map (·.1) -> ∀ lab u, (lab, u) ∈ Y.lOf a -> ∃ k', M.tr a lab = some k' /\ kk.dk.is h k' u
 has : ∀ a lab k', M.tr a lab = some k' -> a ∈ Y.l.map (·.1) /\ lab ∈ (Y.lOf a).map (·.1)
 dinj : ∀ a a', a ∈ Y.l.map (·.1) -> a' ∈ Y.l.map (·.1) -> Y.dOf a = Y.dOf a' -> a = a'
 dne : ∀ a, a ∈ Y.l.map (·.1) -> Y.dOf a ≠ Y.t /\ Y.dOf a ≠ Y.e
 dtop : DictAt kk.dk h Y.e Y.le
 pe : P Y.e
 dval : ∀ a u, (a, u) ∈ Y.le -> ∃ k', M.df a = some k' /\ kk.dk.is h k' u
 dhas : ∀ a k', M.df a = some k' -> a ∈ Y.le.map (·.1)
 te : Y.t ≠ Y.e
 pf : P Y.f
 S : ∃ lf, SetAt kk.sk 18 h Y.f lf /\ ∀ a, a ∈ lf ↔ M.fin a
 okl : ∀ a, a ∈ Y.l.map (·.1) -> M.gk a /\ ∀ lab, lab ∈ (Y.lOf a).map (·.1) -> M.gl lab
 oke : ∀ a, a ∈ Y.le.map (·.1) -> M.gk a
section
variable {prog : Program} {w : World} {K : Type} [DecidableEq K] {kk : KK prog w K} {hz0 h h' : Heap} {P : Addr -> Prop} {x : Addr} {Y : DLay K} {M : DMod K}
theorem DfaM.led (V : DfaM kk hz0 P h x Y M) : ∀ q ∈ [(x, instObj 327 Y.dx), (Y.dx, Y.obj w)], h.get? q.1 = some q.2 /\ hz0.get? q.1 = none := by
 intro q hq'
 simp only [List.mem_cons, List.not_mem_nil, or_false] at hq'
 rcases hq' with rfl | rfl
 ·exact ⟨V.ox, V.x0⟩
 ·exact ⟨V.od, V.d0⟩
theorem DfaM.ledT (_V : DfaM kk hz0 P h x Y M) : ∀ q ∈ [(x, instObj 327 Y.dx), (Y.dx, Y.obj w)], q.2.cls ≠ .type "tuple" := by
 intro q hq'
 simp only [List.mem_cons, List.not_mem_nil, or_false] at hq'
 rcases hq' with rfl | rfl
 ·show (Value.ref 327) ≠ _; decide
 ·show (Value.type "dict") ≠ _; decide
theorem DfaM.move (V : DfaM kk hz0 P h x Y M) (k : ∀ b o, P b ∨ b = x ∨ b = Y.dx -> h.get? b = some o -> h'.get? b = some o) (tk : TupKeep h h') : DfaM kk hz0 P h' x Y M where
 ox := k _ _ (.inr (.inl rfl)) V.ox
 od := k _ _ (.inr (.inr rfl)) V.od
 x0 := V.x0
 d0 := V.d0
 p0 := V.p0
 px := V.px
 pd := V.pd
 pa := fun b pb => x11 (V.pa b pb) fun o e => ⟨o, k _ o (.inl pb) e⟩
 vi := kk.dk.keep V.vi tk
 top := V.top.keep (fun o e => k _ o (.inl V.pt) e) tk
 pt := V.pt
 val := V.val
 inn := fun a ha => ⟨(V.inn a ha).1.keep (fun o e => k _ o (.inl (V.inn a ha).2) e) tk, (V.inn a ha).2⟩
 sval := fun a ha lab u hu => x12 (V.sval a ha lab u hu) fun k' e i => ⟨k', e, kk.dk.keep i tk⟩
 has := V.has
 dinj := V.dinj
 dne := V.dne
 dtop := V.dtop.keep (fun o e => k _ o (.inl V.pe) e) tk
 pe := V.pe
 dval := fun a u hu => x12 (V.dval a u hu) fun k' e i => ⟨k', e, kk.dk.keep i tk⟩
 dhas := V.dhas
 te := V.te
 pf := V.pf
 S := x12 (V.S) fun lf S hf => ⟨lf, S.keep (fun o e => k _ o (.inl V.pf) e) tk, hf⟩
 okl := V.okl
 oke := V.oke
noncomputable def DMod.next (M : DMod K) (a : K) (lab : Str) : Option K := match M.tr a lab with
 | some k => some k
 | none => M.df a
noncomputable def OptIs (kk : KK prog w K) (h : Heap) (o : Option K) (v : Value) : Prop := match o with
 | some k => kk.dk.is h k v
 | none => v = .none
end
end
-- DFun
section
open PySem PySem.W PyProof.Rows PySem.Calls
theorem off_DFun : True := by
 w_top off
 trivial
variable {prog : Program} {w : World} {p : Program} {loose : List Str} {mean : ExcName -> Option Value} {mg mb : Str -> Option Value} {hz0 : Heap}
variable {s : Shared} {dp un : Nat} {fr : List Env} {gd : Option (List Code)} {R : Result -> Shared -> Prop}
variable {K : Type} [DecidableEq K] {kk : KK prog w K} {P : Addr -> Prop} {x : Addr} {Y : DLay K} {M : DMod K}
theorem d_start (H : Base (hd.heap_1 w.params) p loose mean mg mb hz0) (hk : ∀ b o, hz0.get? b = some o -> s.heap.get? b = some o)
  (V : DfaM kk hz0 P s.heap x Y M) (hv : (∃ b, Y.v0 = .ref b) ∨ ∃ n t, Y.v0 = .int n t) (hd1 : dp + 5 < recursionLimit) (hu : un + 20 < cLine)
  (hR : ∀ h' tk, (∀ b o, s.heap.get? b = some o -> h'.get? b = some o) -> R (.ok (.ret Y.v0)) { s with heap := h', toks := tk }) :
  codeAny (model prog w) (A0 dp un fr gd) (.call (.ref 252) ⟨[.ref x], []⟩) R s := by
 have hN := V.led
 unfold DLay.obj at hN
 rcases hv with ⟨b, hb⟩ | ⟨n, t, hb⟩ <;> rw [hb] at hN hR
 ·k_dflt (apply enter; assumption; assumption; assumption; k_is; k_is; exact Nat.lt_of_le_of_lt (Nat.le_add_right _ _) (by assumption); exact BindsTo.of_eq rfl; exact locs rfl; exact rfl; exact rfl; exact rfl; decide; k_whole; intro _ _ _ _ _ _ _ _ _; (try dsimp only); (try k_fold))
  rename_i g hz1 Hg Hs Hk F N X T
  o_steps
  exact hR _ _ (keep_all F N Hg hN (by k_mem) (by k_mem))
 ·k_dflt (apply enter; assumption; assumption; assumption; k_is; k_is; exact Nat.lt_of_le_of_lt (Nat.le_add_right _ _) (by assumption); exact BindsTo.of_eq rfl; exact locs rfl; exact rfl; exact rfl; exact rfl; decide; k_whole; intro _ _ _ _ _ _ _ _ _; (try dsimp only); (try k_fold))
  rename_i g hz1 Hg Hs Hk F N X T
  o_steps
  exact hR _ _ (keep_all F N Hg hN (by k_mem) (by k_mem))
theorem d_is_final {k : K} {kv : Value} (H : Base (hd.heap_1 w.params) p loose mean mg mb hz0) (hk : ∀ b o, hz0.get? b = some o -> s.heap.get? b = some o)
  (V : DfaM kk hz0 P s.heap x Y M) (hkv : kk.dk.is s.heap k kv) (hok : kk.sk.ok k) (hd1 : dp + 5 < recursionLimit) (hu : un + 20 < cLine)
  (hR : ∀ h' tk b, (∀ b o, s.heap.get? b = some o -> h'.get? b = some o) -> (b = true ↔ M.fin k) -> R (.ok (.ret (.bool b))) { s with heap := h', toks := tk }) :
  codeAny (model prog w) (A0 dp un fr gd) (.call (.ref 280) ⟨[.ref x, kv], []⟩) R s := by
 have hN := V.led
 k_dflt (apply enter; assumption; assumption; assumption; k_is; k_is; exact Nat.lt_of_le_of_lt (Nat.le_add_right _ _) (by assumption); exact BindsTo.of_eq rfl; exact locs rfl; exact rfl; exact rfl; exact rfl; decide; k_whole; intro _ _ _ _ _ _ _ _ _; (try dsimp only); (try k_fold))
 rename_i g hz1 Hg Hs Hk F N X T
 have tkg := tk_hide Hg (fun q hq => (hN q hq).1) V.ledT
 refine x12 V.S fun lf Sf hf => ?_
 have fx : Y.f ≠ x := fun q => V.px (q ▸ V.pf)
 have fd : Y.f ≠ Y.dx := fun q => V.pd (q ▸ V.pf)
 have Sg := Sf.keep (h' := g) (fun o e => Hg _ _ e (by simp [fx, fd])) tkg
 have hkg := kk.dk.keep hkv tkg
 o_steps
 (rename Fr _ _ _ _ => F1; rename News _ _ _ _ => N1; try rename Heap => hz1')
 refine in_set (sk := kk.sk) (lim := 18) (l := lf) (k := k) ?_ ?_ hok ?_ fun tk2 => ?_
 ·exact Sg.fr F1
 ·o_norm
 ·exact (kk.same _ _ _).mpr (kk.dk.keep hkg fun b o e _ => F1.keep b o e)
 o_steps
 exact hR _ _ _ (keep_all F1 N1 Hg hN (by k_mem) (by k_mem)) (by rw [← hf]; simp)
theorem d_next {k : K} {kv : Value} {lab : Str} {tl : Tok} (H : Base (hd.heap_1 w.params) p loose mean mg mb hz0) (hk : ∀ b o, hz0.get? b = some o -> s.heap.get? b = some o)
  (V : DfaM kk hz0 P s.heap x Y M) {hh : Heap} (V0 : DfaM kk hz0 P hh x Y M) (hkv : kk.dk.is s.heap k kv) (hd1 : dp + 5 < recursionLimit) (hu : un + 20 < cLine)
  (hR : ∀ h' tk v, (∀ b o, s.heap.get? b = some o -> h'.get? b = some o) -> OptIs kk hh (M.next k lab) v -> R (.ok (.ret v)) { s with heap := h', toks := tk }) :
  codeAny (model prog w) (A0 dp un fr gd) (.call (.ref 287) ⟨[.ref x, kv, .str lab tl], []⟩) R s := by
 have hN := V.led
 k_dflt (apply enter; assumption; assumption; assumption; k_is; k_is; exact Nat.lt_of_le_of_lt (Nat.le_add_right _ _) (by assumption); exact BindsTo.of_eq rfl; exact locs rfl; exact rfl; exact rfl; exact rfl; decide; k_whole; intro _ _ _ _ _ _ _ _ _; (try dsimp only); (try k_fold))
 rename_i g hz1 Hg Hs Hk F N X T
 have tkg := tk_hide Hg (fun q hq => (hN q hq).1) V.ledT
 have pg : ∀ b o, P b -> s.heap.get? b = some o -> g.get? b = some o := fun b o pb e => Hg _ _ e (by
  simp only [List.map_cons, List.map_nil, List.mem_cons, List.not_mem_nil, or_false, not_or]
  exact ⟨fun q => V.px (q ▸ pb), fun q => V.pd (q ▸ pb)⟩)
 have Tg := V.top.keep (h' := g) (fun o e => pg _ _ V.pt e) tkg
 have Eg := V.dtop.keep (h' := g) (fun o e => pg _ _ V.pe e) tkg
 have hkg := kk.dk.keep hkv tkg
 o_steps
 (rename Fr _ _ _ _ => F1; rename News _ _ _ _ => N1; try rename Heap => hz1')
 refine meth_dict (Tg.fr F1) PySem.F.slot_dict_get PySem.F.type_dict_get ?_
 o_steps
 rename_i d0 hA o0 FX NX lo0 hs0 fs0 hi0 fi0 l10
 (rename Fr _ _ _ _ => Fz2; rename News _ _ _ _ => Nz2; try rename Heap => hzz2)
 have D0 : ∀ {h : Heap}, h.get? d0 = some o0 -> DictAt (dStr prog w) h d0 [] := fun e => dictAt_new e hi0 lo0
 clear hs0 hi0 fs0 fi0 lo0
 refine get2_at (dk := kk.dk) (l := Y.l) (k := k) ?_ ?_ ?_ (fun hno tk3 => ?_) (fun v tk3 hv => ?_)
 ·exact Tg.fr Fz2
 ·o_norm
 ·exact kk.dk.keep hkg fun b o e _ => Fz2.keep b o e
 ·have trn : M.tr k lab = none := by
   cases e : M.tr k lab with
   | none => rfl
   | some k' => exact absurd (V.has _ _ _ e).1 hno
  have fin : ∀ v h' tk, (∀ b o, s.heap.get? b = some o -> h'.get? b = some o) -> OptIs kk hh (M.df k) v -> R (.ok (.ret v)) { s with heap := h', toks := tk } := fun v h' tk a b => hR h' tk v a (by unfold DMod.next; rw [trn]; exact b)
  o_steps
  (rename Fr _ _ _ _ => Fz3; rename News _ _ _ _ => Nz3; try rename Heap => hz3)
  refine meth_dict (D0 (Nz3.get (by k_mem))) PySem.F.slot_dict_get PySem.F.type_dict_get ?_
  o_steps
  (rename Fr _ _ _ _ => F4; rename News _ _ _ _ => N4; try rename Heap => hz4)
  refine meth_dict (Eg.fr F4) PySem.F.slot_dict_get PySem.F.type_dict_get ?_
  o_steps
  refine get2_at (dk := kk.dk) (l := Y.le) (k := k) ?_ ?_ ?_ (fun hno2 tk4 => ?_) (fun v2 tk4 hv2 => ?_)
  ·exact Eg.fr F4
  ·o_norm
  ·exact kk.dk.keep hkg fun b o e _ => F4.keep b o e
  ·o_steps
   refine get2_at (dk := dStr prog w) (l := []) (k := lab) ?_ ?_ ?_ (fun _ tk5 => ?_) (fun _ _ hv3 => nomatch hv3)
   ·exact D0 (N4.get (by k_mem))
   ·o_norm
   ·exact ⟨_, rfl⟩
   ·o_steps
    refine fin _ _ _ (keep_all F4 N4 Hg hN (by k_mem) (by k_mem)) ?_
    cases e : M.df k with
    | none => rfl
    | some k' => exact absurd (V.dhas _ _ e) hno2
  ·o_steps
   refine get2_at (dk := dStr prog w) (l := []) (k := lab) ?_ ?_ ?_ (fun _ tk5 => ?_) (fun _ _ hv3 => nomatch hv3)
   ·exact D0 (N4.get (by k_mem))
   ·o_norm
   ·exact ⟨_, rfl⟩
   ·o_steps
    refine fin _ _ _ (keep_all F4 N4 Hg hN (by k_mem) (by k_mem)) ?_
    refine x12 (V0.dval _ _ hv2) fun k' e i => ?_
    rw [e]; exact i
 ·obtain rfl := V.val _ _ hv
  have hkm : k ∈ Y.l.map (·.1) := List.mem_map.mpr ⟨_, hv, rfl⟩
  refine x02 (V.inn k hkm) fun Di pi => ?_
  have Dg := keep_dS (h' := g) Di fun o e => pg _ _ pi e
  o_steps
  (rename Fr _ _ _ _ => Fz3; rename News _ _ _ _ => Nz3; try rename Heap => hz3)
  refine meth_dict (Dg.fr Fz3) PySem.F.slot_dict_get PySem.F.type_dict_get ?_
  o_steps
  (rename Fr _ _ _ _ => F4; rename News _ _ _ _ => N4; try rename Heap => hz4)
  refine meth_dict (Eg.fr F4) PySem.F.slot_dict_get PySem.F.type_dict_get ?_
  o_steps
  refine get2_at (dk := kk.dk) (l := Y.le) (k := k) ?_ ?_ ?_ (fun hno2 tk4 => ?_) (fun v2 tk4 hv2 => ?_)
  ·exact Eg.fr F4
  ·o_norm
  ·exact kk.dk.keep hkg fun b o e _ => F4.keep b o e
  ·o_steps
   refine get2_at (dk := dStr prog w) (l := Y.lOf k) (k := lab) ?_ ?_ ?_ (fun hno3 tk5 => ?_) (fun v3 tk5 hv3 => ?_)
   ·exact Dg.fr F4
   ·o_norm
   ·exact ⟨_, rfl⟩
   ·o_steps
    refine hR _ _ _ (keep_all F4 N4 Hg hN (by k_mem) (by k_mem)) ?_
    have e1 : M.tr k lab = none := by
     cases e : M.tr k lab with
     | none => rfl
     | some k' => exact absurd (V.has _ _ _ e).2 hno3
    have e2 : M.df k = none := by
     cases e : M.df k with
     | none => rfl
     | some k' => exact absurd (V.dhas _ _ e) hno2
    unfold DMod.next
    rw [e1, e2]
    exact rfl
   ·o_steps
    refine hR _ _ _ (keep_all F4 N4 Hg hN (by k_mem) (by k_mem)) ?_
    refine x12 (V0.sval _ hkm _ _ hv3) fun k' e i => ?_
    unfold DMod.next
    rw [e]; exact i
  ·o_steps
   refine get2_at (dk := dStr prog w) (l := Y.lOf k) (k := lab) ?_ ?_ ?_ (fun hno3 tk5 => ?_) (fun v3 tk5 hv3 => ?_)
   ·exact Dg.fr F4
   ·o_norm
   ·exact ⟨_, rfl⟩
   ·o_steps
    refine hR _ _ _ (keep_all F4 N4 Hg hN (by k_mem) (by k_mem)) ?_
    have e1 : M.tr k lab = none := by
     cases e : M.tr k lab with
     | none => rfl
     | some k' => exact absurd (V.has _ _ _ e).2 hno3
    refine x12 (V0.dval _ _ hv2) fun k' e i => ?_
    unfold DMod.next
    rw [e1, e]
    exact i
   ·o_steps
    refine hR _ _ _ (keep_all F4 N4 Hg hN (by k_mem) (by k_mem)) ?_
    refine x12 (V0.sval _ hkm _ _ hv3) fun k' e i => ?_
    unfold DMod.next
    rw [e]; exact i
end
-- NoneIn
section
open PySem PySem.W PyProof.Rows PySem.Calls
open PySem.SetTable
section
variable {prog : Program} {w : World} {A : Around} {E : Value -> Shared -> Prop} {s : Shared} {a : Addr} {lim : Nat} {K : Type} [DecidableEq K] {sk : SKind prog w K} {l : List K}
theorem scan_none {x : Value} {h : Int} {adding : Bool} {Q : ScanMet -> Shared -> Prop} : ∀ (es : List (Int × Value)) (i : Nat), (∀ e ∈ es, e.1 ≠ h) -> Q .absent s -> wpAny (model prog w) A (setScanFrom a x h adding es i) Q E s
 | [], i, _, hq => wpAny_pure hq
 | (h', y) :: es, i, hne, hq => by
  refine (wpAny_ite_false (decide_eq_false fun q => hne (h', y) (.head _) (eq_of_beq q)) ?_ : wpAny _ _ (if (h' == h) = true then _ else _) _ _ _)
  exact scan_none es (i + 1) (fun e he => hne e (by simp [he])) hq
theorem find_none {h : Int} {Q : Option Nat -> Shared -> Prop} (S : SetAt sk lim s.heap a l) (hne : ∀ k ∈ l, sk.hash k ≠ h) (hq : Q none s) : wpAny (model prog w) A (setFind a .none h) Q E s := by
 obtain ⟨o, es, t, ho, ⟨ep, rfl, ok⟩, hK, hn, hoks, hr⟩ := S
 have hes : ∀ e ∈ es.toList, e.1 ≠ h := fun e he => by
  refine x13 (hK.mem_left he) fun k hk e1 _ => ?_
  rw [e1]; exact hne k hk
 unfold setFind
 rw [show (100000 : Nat) = 99999 + 1 from rfl]
 unfold setFindIn
 refine wpAny_bind (wpAny_setState_of ho rfl ok.fits ?_)
 dsimp only
 split
 ·refine wpAny_bind (wpAny_rule ?_)
  refine wpAny_bind ?_
  show wpAny _ _ (setScanFrom a .none h false es.toList 0) _ E s
  exact scan_none es.toList 0 hes (wpAny_pure hq)
 ·unfold setSearch
  refine wpAny_bind (wpAny_bind (wpAny_setState_of ho rfl ok.fits ?_))
  dsimp only
  refine wpAny_ite_false (decide_eq_false fun q => absurd (ok.good.notGave ▸ q) Bool.false_ne_true) ?_
  dsimp only [Option.getD_none]
  have hne' : ∀ i, i < (hsOf es).length -> ((es[i]?.map (·.1)).getD 0) ≠ h := by
   intro i hi e
   rw [hsOf_len] at hi
   rw [Array.getElem?_eq_getElem hi, Option.map_some, Option.getD_some] at e
   exact hes es[i] (by simp) e
  refine x34 (ok.good.probe_free (fun i => (es[i]?.map (·.1)).getD 0) h hne') fun j pre post hp e hj hpre => ?_
  generalize hg : t.probe _ h (t.probeStart h) = r
  obtain rfl : r = _ := hg.symm.trans hp
  dsimp only
  exact wpAny_pure (wpAny_pure hq)
theorem pyHash_none {Q : Int -> Shared -> Prop} (h : ∀ tk, Q 4238894112 { s with toks := tk }) : wpAny (model prog w) A (pyHash .none) Q E s := by
 have hT : s.TypeIs .none "NoneType" := rfl
 unfold pyHash
 have hv : [Value.none].any Value.onHeap = false := rfl
 refine wpAny_bind ?_
 rw [cRoomFor, if_neg (by rw [hv]; exact Bool.false_ne_true)]; refine wpAny_pure ?_
 refine wpAny_bind (wpAny_specialOf hT PySem.F.slot_NoneType_hash.lookup ?_)
 show wpAny _ _ (if (some (Value.builtin "NoneType.__hash__") == some Value.none) = true then _ else _) Q E s
 rw [if_neg (by rw [beq_builtin_none]; exact Bool.false_ne_true)]
 refine wpAny_bind (wpAny_specialOf hT PySem.F.slot_NoneType_hash.lookup ?_)
 show wpAny _ _ (callSpecialIfBoundUnlessNone? .none "__hash__" _ >>= _) Q E s
 refine wpAny_bind (wpAny_callSpecialIfBoundUnlessNone?_slot hT PySem.F.slot_NoneType_hash
  (wpAny_call_entry PySem.F.slot_NoneType_hash hT PySem.F.entry_NoneType_hash
   (show wpAny _ _ (retInt 0xFCA86420) _ _ s from wpAny_ret_mkInt ?_) (PySem.F.args_NoneType_hash_1 _)))
 show wpAny _ _ (if (decide (-(2 : Int) ^ 63 ≤ 4238894112) && decide ((4238894112 : Int) < 2 ^ 63)) = true then _ else _) Q E _
 rw [if_pos (by decide)]
 exact wpAny_pure (h _)
theorem none_in_set {Q : Value -> Shared -> Prop} (S : SetAt sk lim s.heap a l) (hne : ∀ k ∈ l, sk.hash k ≠ 4238894112) (h : ∀ tk, Q (.bool false) { s with toks := tk }) :
  wpAny (model prog w) A (compareOp .In .none (.ref a)) Q E s := by
 show wpAny _ _ (do return .bool (← contains (.ref a) .none)) Q E s
 refine wpAny_bind ?_
 unfold contains
 try with_reducible refine wpAny_holding ?_
 refine wpAny_bind (wpAny_specialOf S.typeIs PySem.F.slot_set_contains.lookup ?_)
 show wpAny _ _ (if (some (Value.builtin "set.__contains__") == some Value.none) = true then _ else _) _ E s
 rw [if_neg (by rw [beq_builtin_none]; exact Bool.false_ne_true)]
 refine wpAny_bind (wpAny_callSpecialUnlessNone?_slot (name := Str.ofString "__contains__") S.typeIs PySem.F.slot_set_contains
  (wpAny_call_entry PySem.F.slot_set_contains S.typeIs entry_set_contains ?_ (PySem.F.args_set_contains_2 _ _)))
 unfold Builtin.«frozenset.__contains__» Builtin.Frozenset.oneOther
 simp only [List.isEmpty_nil, bind_assoc]
 unfold Builtin.Frozenset.addrOf Builtin.Frozenset.withSetAsKey setContains
 refine wpAny_bind (wpAny_pure ?_)
 try dsimp only
 refine wpAny_bind (wpAny_pure ?_)
 try dsimp only
 refine wpAny_bind (wpAny_tryCatch ?_)
 refine wpAny_holding ?_
 refine wpAny_bind (pyHash_none fun tk => ?_)
 refine wpAny_bind (find_none (s := { s with toks := tk }) S hne ?_)
 refine wpAny_pure ?_
 show wpAny _ _ (ret (Value.bool false)) _ _ _
 exact wpAny_pure ⟨_, rfl, wpAny_truthy_bool (wpAny_pure (h tk))⟩
end
end
-- DAccept
section
open PySem PySem.W PyProof.Rows PySem.Calls
theorem off_DAccept : True := by
 w_top off
 trivial
noncomputable def runD {K : Type} (M : DMod K) (cs : List Nat) : Option K := cs.foldl (fun o c => o.bind fun k => M.next k ⟨#[c]⟩) (some M.k0)
theorem runD_succ {K : Type} {M : DMod K} {cs : List Nat} {j c : Nat} (h : cs[j]? = some c) : runD M (cs.take (j + 1)) = (runD M (cs.take j)).bind fun k => M.next k ⟨#[c]⟩ := by
 have e : cs.take (j + 1) = cs.take j ++ [c] := by rw [List.take_add_one, h]; rfl
 unfold runD
 rw [e, List.foldl_append]
 rfl
theorem runD_none {K : Type} {M : DMod K} {cs ds : List Nat} (h : runD M cs = none) : runD M (cs ++ ds) = none := by
 have : ∀ (ds : List Nat), ds.foldl (fun (o : Option K) c => o.bind fun k => M.next k ⟨#[c]⟩) none = none := by
  intro ds
  induction ds with
  | nil => rfl
  | cons c ds ih => exact ih
 unfold runD at *
 rw [List.foldl_append, h]
 exact this ds
variable {prog : Program} {w : World} {p : Program} {loose : List Str} {mean : ExcName -> Option Value} {mg mb : Str -> Option Value} {hz0 : Heap}
variable {s : Shared} {dp un : Nat} {fr : List Env} {gd : Option (List Code)} {R : Result -> Shared -> Prop}
variable {K : Type} [DecidableEq K] {kk : KK prog w K} {P : Addr -> Prop} {x : Addr} {Y : DLay K} {M : DMod K}
theorem d_is_final_none (H : Base (hd.heap_1 w.params) p loose mean mg mb hz0) (hk : ∀ b o, hz0.get? b = some o -> s.heap.get? b = some o)
  (V : DfaM kk hz0 P s.heap x Y M) (hne : ∀ k, M.fin k -> kk.sk.hash k ≠ 4238894112) (hd1 : dp + 5 < recursionLimit) (hu : un + 20 < cLine)
  (hR : ∀ h' tk, (∀ b o, s.heap.get? b = some o -> h'.get? b = some o) -> R (.ok (.ret (.bool false))) { s with heap := h', toks := tk }) :
  codeAny (model prog w) (A0 dp un fr gd) (.call (.ref 280) ⟨[.ref x, .none], []⟩) R s := by
 have hN := V.led
 k_dflt (apply enter; assumption; assumption; assumption; k_is; k_is; exact Nat.lt_of_le_of_lt (Nat.le_add_right _ _) (by assumption); exact BindsTo.of_eq rfl; exact locs rfl; exact rfl; exact rfl; exact rfl; decide; k_whole; intro _ _ _ _ _ _ _ _ _; (try dsimp only); (try k_fold))
 rename_i g hz1 Hg Hs Hk F N X T
 have tkg := tk_hide Hg (fun q hq => (hN q hq).1) V.ledT
 refine x12 V.S fun lf Sf hf => ?_
 have fx : Y.f ≠ x := fun q => V.px (q ▸ V.pf)
 have fd : Y.f ≠ Y.dx := fun q => V.pd (q ▸ V.pf)
 have Sg := Sf.keep (h' := g) (fun o e => Hg _ _ e (by simp [fx, fd])) tkg
 o_steps
 (rename Fr _ _ _ _ => F1; rename News _ _ _ _ => N1; try rename Heap => hz1')
 refine none_in_set (sk := kk.sk) (lim := 18) (l := lf) ?_ (fun k hk => hne k ((hf k).mp hk)) fun tk2 => ?_
 ·exact Sg.fr F1
 o_steps
 exact hR _ _ (keep_all F1 N1 Hg hN (by k_mem) (by k_mem))
theorem d_accept {word : Str} {tw : Tok} (H : Base (hd.heap_1 w.params) p loose mean mg mb hz0) (hk : ∀ b o, hz0.get? b = some o -> s.heap.get? b = some o)
  (V : DfaM kk hz0 P s.heap x Y M) (hv : (∃ b, Y.v0 = .ref b) ∨ ∃ n t, Y.v0 = .int n t) (hne : ∀ k, M.fin k -> kk.sk.hash k ≠ 4238894112) (hg0 : M.gk M.k0) (hgn : ∀ k lab k', M.gk k -> M.next k lab = some k' -> M.gk k') (hok : ∀ k, M.gk k -> kk.sk.ok k)
  (htr : ∀ {A : Around} {E : Value -> Shared -> Prop} {s : Shared} {k : K} {v : Value} {Q : Bool -> Shared -> Prop}, M.gk k -> kk.dk.is s.heap k v -> (∀ tk, Q true { s with toks := tk }) -> wpAny (model prog w) A (truthy v) Q E s)
  (hd1 : dp + 19 < recursionLimit) (hu : un + 80 < cLine)
  (hR : ∀ h' tk b, (∀ b o, s.heap.get? b = some o -> h'.get? b = some o) -> (b = true ↔ ∃ k, runD M word.cps.toList = some k /\ M.fin k) -> ∀ dr, R (.ok (.ret (.bool b))) { s with heap := h', toks := tk, drawn := dr }) :
  codeAny (model prog w) (A0 dp un fr gd) (.call (.ref 128) ⟨[.ref x, .str word tw], []⟩) R s := by
 have hN := V.led
 refine' enter _ ?kH ?kk ?kN ?ko ?kcd ?kroom ?kb ?kl ?c2 ?c3 ?c4 ?c5 ?_
 case kH => assumption
 case kk => assumption
 case kN => assumption
 case ko => k_dflt k_is
 case kcd => k_dflt k_is
 case kroom => exact Nat.lt_of_le_of_lt (Nat.le_add_right _ _) (by assumption)
 case kb => exact binds_K (H.X.keeps hk) rfl (by k_dflt k_is) rfl rfl rfl
 case kl => exact locs rfl
 case c2 => exact rfl
 case c3 => exact rfl
 case c4 => exact rfl
 case c5 => decide
 k_whole
 intro g hz1 Hg Hs Hk F N X T
 (try dsimp only)
 (try k_fold)
 have tkg := tk_hide Hg (fun q hq => (hN q hq).1) V.ledT
 have sub0 := sub_hide Hg hk (fun q hq => (hN q hq).2)
 have now : ∀ {h' : Heap} {m : Str -> Option Value} {news : List (Addr × Obj)}, Fr g s.heap.objs.size h' m -> News g s.heap.objs.size h' news -> (x, instObj 327 Y.dx) ∈ news -> (Y.dx, Y.obj w) ∈ news -> DfaM kk hz0 P h' x Y M := fun F' N' m1 m2 =>
  V.move (fun b o _ e => keep_all F' N' Hg hN m1 m2 b o e) (tkg.trans fun b o e _ => F'.keep b o e)
 o_steps
 try dsimp only [List.append_nil]
 refine wpAny_call ?_
 refine d_start H ?_ (now F N (by k_mem) (by k_mem)) hv ?_ ?_ fun h2 tk2 hk2 => ?_
 ·exact fun b o e => F.keep _ _ (sub0 b o e)
 ·exact (rmL hd1 rfl : dp + 6 < recursionLimit)
 ·exact (rmL hu rfl : un + 23 < cLine)
 have Fz2 := fr_stay F hk2
 have Nz2 := news_stay N hk2
 clear F N
 try dsimp only
 o_steps
 (rename Fr _ _ _ _ => Fz3; rename News _ _ _ _ => Nz3; try rename Heap => hz3)
 refine For_my (hs := fun _ => rfl) (ht := fun _ _ => rfl) g ?_
 o_steps
 refine iter_str (fun j m news h => Chu (fun G => ∀ kv k, m (Str.ofString "self") = some (.ref x) -> m (Str.ofString "state") = some kv -> kk.dk.is s.heap k kv -> M.gk k -> runD M (word.cps.toList.take j) = some k -> G [(x, instObj 327 Y.dx), (Y.dx, Y.obj w)]) news) rfl Fz3 Nz3 ?_ ?_ ?_ ?_
 ·exact fun _ k9 => k9 Y.v0 M.k0 rfl rfl V.vi hg0 rfl
 ·exact fun _ _ _ _ _ hJ _ => hJ
 ·rintro I j c tv mz1 news1 hz4 tk dr own hjc q86; refine Chu.out q86 ?_; intro kv k m1 m2 hkv hgk hrun hav hown F4 N4 q87; refine x11 q87 fun oI hIo => ?_
  have F4 := fr_put (Str.ofString "self") (fr_put (Str.ofString "state") F4 m2) (by exact m1)
  dsimp only [List.cons_append, List.nil_append] at N4
  refine wpAny_assign_Name ?_
  o_steps
  (rename Fr _ _ _ _ => F5; rename News _ _ _ _ => N5; try rename Heap => hz5)
  refine wpAny_call ?_
  refine d_next (k := k) H ?_ (now F5 N5 (by k_mem) (by k_mem)) V ?_ ?_ ?_ fun h6 tk6 v6 hk6 ho6 => ?_
  ·exact fun b o e => F5.keep _ _ (sub0 b o e)
  ·exact kk.dk.keep hkv (tkg.trans fun b o e _ => F5.keep b o e)
  ·exact (rmL hd1 rfl : dp + 6 < recursionLimit)
  ·exact (rmL hu rfl : un + 23 < cLine)
  have F6 := fr_stay F5 hk6
  have N6 := news_stay N5 hk6
  clear F5 N5
  have hsucc := runD_succ (M := M) (show word.cps.toList[j]? = some c by rw [Array.getElem?_toList]; exact hjc)
  rw [hrun, Option.bind_some] at hsucc
  try dsimp only
  cases hnx : M.next k ⟨#[c]⟩ with
  | none =>
   rw [hnx] at ho6 hsucc
   obtain rfl : v6 = .none := ho6
   o_steps
   try dsimp only [StepMy]
   o_steps
   (rename Fr _ _ _ _ => F7; rename News _ _ _ _ => N7; try rename Heap => hz7)
   refine wpAny_call ?_
   refine d_is_final_none H ?_ (now F7 N7 (by k_mem) (by k_mem)) hne ?_ ?_ fun h9 tk9 hk9 => ?_
   ·exact fun b o e => F7.keep _ _ (sub0 b o e)
   ·exact (rmL hd1 rfl : dp + 6 < recursionLimit)
   ·exact (rmL hu rfl : un + 23 < cLine)
   try dsimp only
   have ka := keep_all F7 N7 Hg hN (by k_mem) (by k_mem)
   have hno := runD_none (ds := word.cps.toList.drop (j + 1)) hsucc
   rw [List.take_append_drop] at hno
   refine hR _ _ false (fun b o e => hk9 _ _ (ka b o e)) ⟨fun h => (nomatch h), fun q811 => x12 q811 fun k' h _ => ?_⟩ _
   rw [hno] at h; cases h
  | some k' =>
   rw [hnx] at ho6 hsucc
   have hk' : kk.dk.is s.heap k' v6 := ho6
   have hg' := hgn _ _ _ hgk hnx
   o_steps
   (rename Fr _ _ _ _ => F7; rename News _ _ _ _ => N7; try rename Heap => hz7)
   refine htr hg' (kk.dk.keep hk' (tkg.trans fun b o e _ => F7.keep b o e)) fun tk8 => ?_
   o_steps
   exact (fun _ k9 => k9 _ _ _ _ ([(x, instObj 327 Y.dx), (Y.dx, Y.obj w)]) F7 N7 hav (fun _ k9 => k9 v6 k' rfl rfl hk' hg' hsucc))
 ·rintro mz1 news1 hz4 tk dr q89; refine Chu.out q89 ?_; intro kv k m1 m2 hkv hgk hrun F4 N4
  have F4 := fr_put (Str.ofString "self") (fr_put (Str.ofString "state") F4 m2) (by exact m1)
  try dsimp only
  o_steps
  refine wpAny_call ?_
  refine d_is_final (k := k) H ?_ (now F4 N4 (by k_mem) (by k_mem)) ?_ (hok _ hgk) ?_ ?_ fun h9 tk9 b hk9 hb9 => ?_
  ·exact fun b o e => F4.keep _ _ (sub0 b o e)
  ·exact kk.dk.keep hkv (tkg.trans fun b o e _ => F4.keep b o e)
  ·exact (rmL hd1 rfl : dp + 6 < recursionLimit)
  ·exact (rmL hu rfl : un + 23 < cLine)
  try dsimp only
  have ka := keep_all F4 N4 Hg hN (by k_mem) (by k_mem)
  have e : word.cps.toList.take word.cps.size = word.cps.toList := by rw [← Array.length_toList, List.take_length]
  rw [e] at hrun
  refine hR _ _ b (fun b o e => hk9 _ _ (ka b o e)) ?_ _
  rw [hb9, hrun]
  exact ⟨fun h => ⟨k, rfl, h⟩, fun q812 => x12 q812 fun k' h h' => by cases h; exact h'⟩
end
-- Hash4
section
open PySem
noncomputable def up (n : Nat) : Int -> List (List Int) := Nat.rec (fun _ => [[]]) (fun _ f lo => f (lo + 1) ++ (f (lo + 1)).map (lo :: ·)) n
theorem in_up (n : Nat) : ∀ (lo : Int) (ns : List Int), ns.Pairwise (· < ·) -> (∀ a ∈ ns, lo ≤ a /\ a < lo + n) -> ns ∈ up n lo := by
 induction n with
 | zero =>
  intro lo ns _ hb
  cases ns with
  | nil => exact .head _
  | cons a r => exact absurd (hb a (.head _)) fun h => Int.not_lt.mpr h.1 (Int.add_zero lo ▸ h.2)
 | succ n ih =>
  intro lo ns hp hb
  have nx : ∀ {a : Int}, a < lo + ((n + 1 : Nat) : Int) -> a < lo + 1 + n := fun {a} h => by lia
  cases ns with
  | nil => exact List.mem_append_left _ (ih _ [] .nil fun a h => nomatch h)
  | cons a r =>
   have hp' := List.pairwise_cons.mp hp
   refine (Int.lt_or_eq_of_le (hb a (.head _)).1).elim (fun h => ?_) fun h => ?_
   ·exact List.mem_append_left _ (ih _ _ hp fun b q => ⟨(List.mem_cons.mp q).elim (fun e => e ▸ h) fun q => Int.le_trans h (Int.le_of_lt (hp'.1 b q)), nx (hb b q).2⟩)
   ·exact List.mem_append_right _ (List.mem_map.mpr ⟨r, ih _ _ hp'.2 fun b q => ⟨h ▸ hp'.1 b q, nx (hb b (.tail _ q)).2⟩, h ▸ rfl⟩)
noncomputable def subs4 : List (List Int) := up 4 0
noncomputable def dom4 (ns : List Int) : Prop := ns ∈ subs4
theorem hash4 : ∀ x ∈ subs4, ∀ y ∈ subs4, thash x = thash y -> x = y := by decide +kernel
theorem hdom4 : ∀ x y, dom4 x -> dom4 y -> thash x = thash y -> x = y := fun x y hx hy => hash4 x hx y hy
theorem none4 : ∀ x ∈ subs4, thash x ≠ 4238894112 := by decide +kernel
theorem in_subs4 {ns : List Int} (hp : ns.Pairwise (· < ·)) (hb : ∀ a ∈ ns, 0 ≤ a /\ a < 4) : ns ∈ subs4 := in_up 4 0 ns hp hb
theorem dom4_le {m : List (List Int)} (hn : m.Nodup) (h : ∀ k ∈ m, dom4 k) : m.length ≤ 16 := nodup_le hn h
end
-- SubP
section
open PySem
open Classical in
noncomputable def canon (S : Int -> Prop) : List Int := [0, 1, 2, 3].filter fun a => decide (S a)
theorem mem_canon {S : Int -> Prop} (hS : ∀ a, S a -> 0 ≤ a /\ a < 4) (a : Int) : a ∈ canon S ↔ S a := by
 unfold canon
 classical
 rw [List.mem_filter, decide_eq_true_iff]
 refine ⟨fun h => h.2, fun h => ⟨?_, h⟩⟩
 have := hS a h
 have : a = 0 ∨ a = 1 ∨ a = 2 ∨ a = 3 := by lia
 rcases this with rfl | rfl | rfl | rfl <;> decide
theorem canon_sorted (S : Int -> Prop) : (canon S).Pairwise (· < ·) := List.Pairwise.filter _ (by decide)
theorem sorted_ext : ∀ {l m : List Int}, l.Pairwise (· < ·) -> m.Pairwise (· < ·) -> (∀ a, a ∈ l ↔ a ∈ m) -> l = m
 | [], [], _, _, _ => rfl
 | [], b :: m, _, _, h => absurd ((h b).mpr (by simp)) (by simp)
 | a :: l, [], _, _, h => absurd ((h a).mp (by simp)) (by simp)
 | a :: l, b :: m, hl, hm, h => by
  rw [List.pairwise_cons] at hl hm
  have hab : a = b := by
   rcases List.mem_cons.mp ((h a).mp (by simp)) with e | e
   ·exact e
   ·rcases List.mem_cons.mp ((h b).mpr (by simp)) with e' | e'
    ·exact e'.symm
    ·have := hm.1 a e; have := hl.1 b e'; lia
  subst hab
  congr 1
  refine sorted_ext hl.2 hm.2 fun c => ⟨fun hc => ?_, fun hc => ?_⟩
  ·rcases List.mem_cons.mp ((h c).mp (by simp [hc])) with e | e
   ·subst e; exact absurd (hl.1 c hc) (by lia)
   ·exact e
  ·rcases List.mem_cons.mp ((h c).mpr (by simp [hc])) with e | e
   ·subst e; exact absurd (hm.1 c hc) (by lia)
   ·exact e
theorem strict_of {l : List Int} (hp : l.Pairwise (· ≤ ·)) (hn : l.Nodup) : l.Pairwise (· < ·) := by
 have := hp.and hn
 exact this.imp fun q81 => x02 q81 fun h1 h2 => by lia
theorem canon_eq {S : Int -> Prop} (hS : ∀ a, S a -> 0 ≤ a /\ a < 4) {l : List Int} (hp : l.Pairwise (· ≤ ·)) (hn : l.Nodup) (h : ∀ a, a ∈ l ↔ S a) : l = canon S :=
 sorted_ext (strict_of hp hn) (canon_sorted S) fun a => by rw [h, mem_canon hS]
theorem canon_dom {S : Int -> Prop} (hS : ∀ a, S a -> 0 ≤ a /\ a < 4) : dom4 (canon S) := in_subs4 (canon_sorted S) fun a ha => hS a ((mem_canon hS a).mp ha)
variable (Ar : Int -> Str -> Int -> Prop) (i : Int)
noncomputable def nextL (a : List Int) (lab : Str) : List Int := canon fun b => ∃ c, Move Ar lab a c /\ Star Ar EPS c b
noncomputable def startL : List Int := canon fun b => Clos Ar [i] b
noncomputable def HasL (a : List Int) (lab : Str) : Prop := ∃ s ∈ a, ∃ b, Ar s lab b
variable (Fin : Int -> Prop)
structure DGood (M : DMod (List Int)) : Prop where
 k0 : M.k0 = startL Ar i
 tr1 : ∀ a lab v, M.tr a lab = some v -> lab ≠ EPS /\ lab ≠ ANYS /\ HasL Ar a lab /\ v = nextL Ar a lab
 df1 : ∀ a v, M.df a = some v -> HasL Ar a ANYS /\ v = nextL Ar a ANYS
 fin1 : ∀ a, M.fin a -> ∃ b ∈ a, Fin b
structure DDone (M : DMod (List Int)) (a : List Int) : Prop where
 tr2 : ∀ lab, lab ≠ EPS -> lab ≠ ANYS -> HasL Ar a lab -> M.tr a lab = some (nextL Ar a lab)
 df2 : HasL Ar a ANYS -> M.df a = some (nextL Ar a ANYS)
 fin2 : (∃ b ∈ a, Fin b) -> M.fin a
section
variable {Ar : Int -> Str -> Int -> Prop} {i : Int} {Fin : Int -> Prop} {M : DMod (List Int)}
noncomputable abbrev U4 (a : Int) : Prop := 0 ≤ a /\ a < 4
theorem nextL_mem (hU : Small U4 i Ar) (a : List Int) (lab : Str) (b : Int) : b ∈ nextL Ar a lab ↔ ∃ c, Move Ar lab a c /\ Star Ar EPS c b :=
 mem_canon (fun b q82 => x12 q82 fun _ hc r => star_U hU (move_U hU hc) r) b
theorem startL_mem (hU : Small U4 i Ar) (b : Int) : b ∈ startL Ar i ↔ Clos Ar [i] b :=
 mem_canon (fun b h => clos_U (l := [i]) (fun a ha => by simp at ha; subst ha; exact hU.init) hU.arc h) b
theorem nextL_dom (hU : Small U4 i Ar) (a : List Int) (lab : Str) : dom4 (nextL Ar a lab) := canon_dom fun b q83 => x12 q83 fun _ hc r => star_U hU (move_U hU hc) r
theorem startL_dom (hU : Small U4 i Ar) : dom4 (startL Ar i) := canon_dom fun b h => clos_U (l := [i]) (fun a ha => by simp at ha; subst ha; exact hU.init) hU.arc h
theorem nextL_ne (hU : Small U4 i Ar) {a : List Int} {lab : Str} (h : HasL Ar a lab) : nextL Ar a lab ≠ [] := by
 obtain ⟨s, hs, b, hb⟩ := h
 have : b ∈ nextL Ar a lab := (nextL_mem hU a lab b).mpr ⟨b, ⟨s, hs, .inl hb⟩, .refl b⟩
 intro q; rw [q] at this; cases this
theorem startL_ne (hU : Small U4 i Ar) : startL Ar i ≠ [] := by
 have : i ∈ startL Ar i := (startL_mem hU i).mpr ⟨i, by simp, .refl i⟩
 intro q; rw [q] at this; cases this
theorem sign_eps (c : Nat) : (⟨#[c]⟩ : Str) ≠ EPS := by
 intro h
 have := congrArg (fun x : Str => x.cps.size) h
 revert this
 show ¬ (1 = _)
 decide
theorem sign_any (c : Nat) : (⟨#[c]⟩ : Str) ≠ ANYS := by
 intro h
 have := congrArg (fun x : Str => x.cps.size) h
 revert this
 show ¬ (1 = _)
 decide
theorem next_good (hU : Small U4 i Ar) (G : DGood Ar i Fin M) {a : List Int} (D : DDone Ar Fin M a) (c : Nat) :
  (M.next a ⟨#[c]⟩ = some (nextL Ar a ⟨#[c]⟩) /\ (HasL Ar a ⟨#[c]⟩ ∨ HasL Ar a ANYS) /\ nextL Ar a ⟨#[c]⟩ ≠ [] /\ (¬ HasL Ar a ⟨#[c]⟩ -> nextL Ar a ⟨#[c]⟩ = nextL Ar a ANYS)) ∨ (M.next a ⟨#[c]⟩ = none /\ ∀ b, ¬ Move Ar ⟨#[c]⟩ a b) := by
 by_cases h1 : HasL Ar a ⟨#[c]⟩
 ·refine .inl ⟨?_, .inl h1, nextL_ne hU h1, fun h => absurd h1 h⟩
  unfold DMod.next
  rw [D.tr2 _ (sign_eps c) (sign_any c) h1]
 ·have tn : M.tr a ⟨#[c]⟩ = none := by
   cases e : M.tr a ⟨#[c]⟩ with
   | none => rfl
   | some v => exact absurd (G.tr1 _ _ _ e).2.2.1 h1
  have mv : ∀ b, Move Ar ⟨#[c]⟩ a b ↔ Move Ar ANYS a b := fun b =>
   ⟨fun q84 => x12 q84 fun s hs q => ⟨s, hs, q.elim (fun q => absurd ⟨s, hs, b, q⟩ h1) .inr⟩, fun q85 => x12 q85 fun s hs q => ⟨s, hs, .inr (q.elim id id)⟩⟩
  have eqn : nextL Ar a ⟨#[c]⟩ = nextL Ar a ANYS := by
   unfold nextL
   congr 1
   funext b
   exact propext ⟨fun q86 => x12 q86 fun c' h r => ⟨c', (mv c').mp h, r⟩, fun q87 => x12 q87 fun c' h r => ⟨c', (mv c').mpr h, r⟩⟩
  by_cases h2 : HasL Ar a ANYS
  ·refine .inl ⟨?_, .inr h2, by rw [eqn]; exact nextL_ne hU h2, fun _ => eqn⟩
   unfold DMod.next
   rw [tn, D.df2 h2, eqn]
  ·refine .inr ⟨?_, fun b hb => ?_⟩
   ·unfold DMod.next
    rw [tn]
    cases e : M.df a with
    | none => rfl
    | some v => exact absurd (G.df1 _ _ e).1 h2
   ·refine x12 ((mv b).mp hb) fun s hs q => ?_
    exact h2 ⟨s, hs, b, q.elim id id⟩
theorem runD_runP (hU : Small U4 i Ar) (G : DGood Ar i Fin M) {Kd : List Int -> Prop} (hd : ∀ a, Kd a -> DDone Ar Fin M a) (h0 : Kd (startL Ar i)) (hn : ∀ a lab, Kd a -> lab ≠ EPS -> HasL Ar a lab -> Kd (nextL Ar a lab)) :
  ∀ n (cs : List Nat), cs.length = n -> (runD M cs = none /\ ∀ b, ¬ runP Ar i cs b) ∨ ∃ k, runD M cs = some k /\ Kd k /\ k ≠ [] /\ ∀ b, b ∈ k ↔ runP Ar i cs b := by
 intro n
 induction n with
 | zero =>
  intro cs hl
  have : cs = [] := List.eq_nil_of_length_eq_zero hl
  subst this
  exact .inr ⟨startL Ar i, by unfold runD; rw [← G.k0]; rfl, h0, startL_ne hU, fun b => startL_mem hU b⟩
 | succ n ih =>
  intro cs hl
  rcases snoc_cases cs with rfl | ⟨ds, c, rfl⟩
  ·cases hl
  ·have hl' : ds.length = n := by simpa using hl
   have e1 : runD M (ds ++ [c]) = (runD M ds).bind fun k => M.next k ⟨#[c]⟩ := by unfold runD; rw [List.foldl_append]; rfl
   have e2 : ∀ b, runP Ar i (ds ++ [c]) b ↔ stepP Ar ⟨#[c]⟩ (runP Ar i ds) b := fun b => by unfold runP; rw [List.foldl_append]; exact Iff.rfl
   rcases ih ds hl' with ⟨a1, a2⟩ | ⟨k, a1, a2, a3, a4⟩
   ·refine .inl ⟨by rw [e1, a1]; rfl, fun b hb => ?_⟩
    refine x12 ((e2 b).mp hb) fun c' q91 _ => ?_; refine x12 q91 fun a ha _ => ?_
    exact a2 a ha
   ·have st : ∀ b, stepP Ar ⟨#[c]⟩ (runP Ar i ds) b ↔ ∃ c', Move Ar ⟨#[c]⟩ k c' /\ Star Ar EPS c' b := fun b =>
     ⟨fun ⟨c', ⟨a, ha, q⟩, r⟩ => ⟨c', ⟨a, (a4 a).mpr ha, q⟩, r⟩, fun ⟨c', ⟨a, ha, q⟩, r⟩ => ⟨c', ⟨a, (a4 a).mp ha, q⟩, r⟩⟩
    rcases next_good hU G (hd k a2) c with ⟨b1, b2, b3, b4⟩ | ⟨b1, b2⟩
    ·refine .inr ⟨_, by rw [e1, a1]; exact b1, ?_, b3, fun b => by rw [e2, st, nextL_mem hU]⟩
     by_cases h1 : HasL Ar k ⟨#[c]⟩
     ·exact hn _ _ a2 (sign_eps c) h1
     ·rw [b4 h1]
      exact hn _ _ a2 (by decide) (b2.resolve_left h1)
    ·refine .inl ⟨by rw [e1, a1]; exact b1, fun b hb => ?_⟩
     refine x12 ((st b).mp ((e2 b).mp hb)) fun c' hc _ => ?_
     exact b2 c' hc
end
structure DWh (Ar : Int -> Str -> Int -> Prop) (i : Int) (Fin : Int -> Prop) (M : DMod (List Int)) (Dn : List Int -> Prop) (Fr Se : List (List Int)) : Prop where
 good : DGood Ar i Fin M
 done : ∀ a, Dn a -> DDone Ar Fin M a
 vals : ∀ a lab, Dn a -> lab ≠ EPS -> HasL Ar a lab -> nextL Ar a lab ∈ Se
 seen : ∀ a ∈ Se, Dn a ∨ a ∈ Fr
 start : Dn (startL Ar i) ∨ startL Ar i ∈ Fr
 okF : ∀ a ∈ Fr, dom4 a /\ a ≠ []
 okS : ∀ a ∈ Se, dom4 a /\ a ≠ []
theorem DWh.end {Ar : Int -> Str -> Int -> Prop} {i : Int} {Fin : Int -> Prop} {M : DMod (List Int)} {Dn : List Int -> Prop} {Se : List (List Int)} (I : DWh Ar i Fin M Dn [] Se) :
  DGood Ar i Fin M /\ (∀ a, Dn a -> DDone Ar Fin M a) /\ Dn (startL Ar i) /\ ∀ a lab, Dn a -> lab ≠ EPS -> HasL Ar a lab -> Dn (nextL Ar a lab) :=
 ⟨I.good, I.done, I.start.resolve_right (by simp), fun a lab h1 h2 h3 => (I.seen _ (I.vals a lab h1 h2 h3)).resolve_right (by simp)⟩
end
-- DMut
section
open PySem PySem.W PyProof.Rows PySem.Calls
theorem off_DMut : True := by
 w_top off
 trivial
variable {prog : Program} {w : World} {p : Program} {loose : List Str} {mean : ExcName -> Option Value} {mg mb : Str -> Option Value} {hz0 : Heap}
variable {s : Shared} {dp un : Nat} {fr : List Env} {gd : Option (List Code)} {R : Result -> Shared -> Prop}
variable {K : Type} [DecidableEq K] {kk : KK prog w K} {P : Addr -> Prop} {x : Addr} {Y : DLay K} {M : DMod K}
theorem nt_set {o : Obj} (h : o.cls = .type "set") : o.cls ≠ .type "tuple" := by rw [h]; decide
theorem nt_dict {o : Obj} (h : o.cls = .type "dict") : o.cls ≠ .type "tuple" := by rw [h]; decide
theorem off_tk {D : List Addr} {h h' : Heap} (k : OffKeep D h h') (hD : ∀ d ∈ D, ∀ o, h.get? d = some o -> o.cls ≠ .type "tuple") : TupKeep h h' := fun b o e c => k b o (fun q => hD b q o e c.1) e
theorem d_add_final {k : K} {kv : Value} (H : Base (hd.heap_1 w.params) p loose mean mg mb hz0) (hk : ∀ b o, hz0.get? b = some o -> s.heap.get? b = some o)
  (V : DfaM kk hz0 P s.heap x Y M) (hkv : kk.dk.is s.heap k kv) (hok : kk.sk.ok k) (hb : ∀ m : List K, m.Nodup -> (∀ a ∈ m, a = k ∨ M.fin a) -> m.length ≤ 18)
  (hd1 : dp + 5 < recursionLimit) (hu : un + 20 < cLine)
  (hR : ∀ h' tk, OffKeep [Y.f] s.heap h' -> TupKeep s.heap h' -> DfaM kk hz0 P h' x Y { M with fin := fun a => a = k ∨ M.fin a } -> R (.ok (.ret .none)) { s with heap := h', toks := tk }) :
  codeAny (model prog w) (A0 dp un fr gd) (.call (.ref 273) ⟨[.ref x, kv], []⟩) R s := by
 refine x12 V.S fun lf Sf hf => ?_
 refine Sf.exP fun of hof cf => ?_
 have hN : ∀ q ∈ [(Y.f, of), (x, instObj 327 Y.dx), (Y.dx, Y.obj w)], s.heap.get? q.1 = some q.2 /\ hz0.get? q.1 = none := allC ⟨hof, V.p0 _ V.pf⟩ V.led
 have e1 : Y.f ≠ x := fun q => V.px (q ▸ V.pf)
 have e2 : Y.f ≠ Y.dx := fun q => V.pd (q ▸ V.pf)
 k_dflt (apply enter; assumption; assumption; assumption; k_is; k_is; exact Nat.lt_of_le_of_lt (Nat.le_add_right _ _) (by assumption); exact BindsTo.of_eq rfl; exact locs rfl; exact rfl; exact rfl; exact rfl; decide; k_whole; intro _ _ _ _ _ _ _ _ _; (try dsimp only); (try k_fold))
 rename_i g hz1 Hg Hs Hk F N X T
 have tkg := tk_hide Hg (fun q hq => (hN q hq).1) (allC (nt_set cf) V.ledT)
 o_steps
 (rename Fr _ _ _ _ => F1; rename News _ _ _ _ => N1; try rename Heap => hz1')
 have tk1 : TupKeep s.heap hz1' := tkg.trans fun b o e _ => F1.keep b o e
 have S1 := Sf.keep (h' := hz1') (fun o e => by rw [hof] at e; cases e; exact N1.get (by k_mem)) tk1
 refine meth_set S1 PySem.F.slot_set_add PySem.F.type_set_add ?_
 o_steps
 refine call_add (sk := kk.sk) (lim := 18) (l := lf) (k := k) S1 ?_ hok ?_ ?_ fun h2 tk2 l2 hs2 hl2 S2 => ?_
 ·o_norm
 ·exact (kk.same _ _ _).mpr (kk.dk.keep hkv tk1)
 ·exact fun hkl => hb (k :: lf) (List.nodup_cons.mpr ⟨hkl, let ⟨_, _, _, _, _, _, hn, _, _⟩ := Sf; hn⟩) (allC (.inl rfl) fun a ha => .inr ((hf a).mp ha))
 refine S2.hit F1 N1 (nqC (Ne.symm e1) (nqC (Ne.symm e2) nqN)) hs2 fun o2 ho2 _ Fz2 Nz2 => ?_
 clear F1 N1
 o_steps
 have hoff : OffKeep [Y.f] s.heap h2 := off_end Fz2 Hg (fun q hq => (hN q hq).1) (all3 (.inl (.head _)) (.inr (Nz2.get (by k_mem))) (.inr (Nz2.get (by k_mem))))
 have tk2 : TupKeep s.heap h2 := off_tk hoff (all1 (look hof (nt_set cf)))
 have nf : ∀ {K : Type} [DecidableEq K] {dk : DKind prog w K} {b ld}, DictAt dk s.heap b ld -> b ∉ [Y.f] := fun D => nin1 fun q => D.exP fun o e c => by
  rw [q, hof] at e; cases e
  rw [cf] at c; exact absurd c (by decide)
 have kd : ∀ {K : Type} [DecidableEq K] {dk : DKind prog w K} {b ld}, DictAt dk s.heap b ld -> DictAt dk h2 b ld := fun D => D.keep (fun o e => hoff _ _ (nf D) e) tk2
 exact hR _ _ hoff tk2 ⟨hoff _ _ (nin1 (Ne.symm e1)) V.ox, hoff _ _ (nin1 (Ne.symm e2)) V.od, V.x0, V.d0, V.p0, V.px, V.pd, (fun b pb => if q : b = Y.f then ⟨o2, q ▸ ho2⟩ else x11 (V.pa b pb) fun o e => ⟨o, hoff _ _ (nin1 (q)) e⟩), kk.dk.keep V.vi tk2, kd V.top, V.pt, V.val, fun a ha => ⟨kd (V.inn a ha).1, (V.inn a ha).2⟩, fun a ha lab u hu => x12 (V.sval a ha lab u hu) fun k' e i => ⟨k', e, kk.dk.keep i tk2⟩, V.has, V.dinj, V.dne, kd V.dtop, V.pe, fun a u hu => x12 (V.dval a u hu) fun k' e i => ⟨k', e, kk.dk.keep i tk2⟩, V.dhas, V.te, V.pf, ⟨l2, S2, fun a => by rw [mem_added hl2, hf]⟩, V.okl, V.oke⟩
theorem d_set_default {k j : K} {kv jv : Value} (H : Base (hd.heap_1 w.params) p loose mean mg mb hz0) (hk : ∀ b o, hz0.get? b = some o -> s.heap.get? b = some o)
  (V : DfaM kk hz0 P s.heap x Y M) (hkv : kk.dk.is s.heap k kv) (hjv : kk.dk.is s.heap j jv) (hgk : M.gk k) (hb : ∀ m : List K, m.Nodup -> (∀ a ∈ m, M.gk a) -> m.length ≤ 18)
  (hd1 : dp + 5 < recursionLimit) (hu : un + 20 < cLine)
  (hR : ∀ h' tk Y', OffKeep [Y.e] s.heap h' -> TupKeep s.heap h' -> DfaM kk hz0 P h' x Y' { M with df := fun a => if a = k then some j else M.df a } -> R (.ok (.ret .none)) { s with heap := h', toks := tk }) :
  codeAny (model prog w) (A0 dp un fr gd) (.call (.ref 266) ⟨[.ref x, kv, jv], []⟩) R s := by
 refine V.dtop.exP fun oe hoe ce => ?_
 have hN : ∀ q ∈ [(Y.e, oe), (x, instObj 327 Y.dx), (Y.dx, Y.obj w)], s.heap.get? q.1 = some q.2 /\ hz0.get? q.1 = none := allC ⟨hoe, V.p0 _ V.pe⟩ V.led
 have e1 : Y.e ≠ x := fun q => V.px (q ▸ V.pe)
 have e2 : Y.e ≠ Y.dx := fun q => V.pd (q ▸ V.pe)
 k_dflt (apply enter; assumption; assumption; assumption; k_is; k_is; exact Nat.lt_of_le_of_lt (Nat.le_add_right _ _) (by assumption); exact BindsTo.of_eq rfl; exact locs rfl; exact rfl; exact rfl; exact rfl; decide; k_whole; intro _ _ _ _ _ _ _ _ _; (try dsimp only); (try k_fold))
 rename_i g hz1 Hg Hs Hk F N X T
 have tkg := tk_hide Hg (fun q hq => (hN q hq).1) (allC (nt_dict ce) V.ledT)
 o_steps
 (rename Fr _ _ _ _ => F1; rename News _ _ _ _ => N1; try rename Heap => hz1')
 have tk1 : TupKeep s.heap hz1' := tkg.trans fun b o e _ => F1.keep b o e
 have D1 := V.dtop.keep (h' := hz1') (fun o e => by rw [hoe] at e; cases e; exact N1.get (by k_mem)) tk1
 have hlen : Y.le.length ≤ 18 := by
  exact lenMap (hb (Y.le.map (·.1)) V.dtop.nodup V.oke)
 refine setItem_at (dk := kk.dk) (l := Y.le) (k := k) D1 ?_ (kk.dk.keep hkv tk1) (by rw [sizeLine_eq]; lia) fun h2 tk2 D2 hs2 => ?_
 ·o_norm
 refine D2.hit F1 N1 (nqC (Ne.symm e1) (nqC (Ne.symm e2) nqN)) hs2 fun o2 ho2 Fz2 Nz2 => ?_
 clear F1 N1
 o_steps
 have hoff : OffKeep [Y.e] s.heap h2 := off_end Fz2 Hg (fun q hq => (hN q hq).1) (all3 (.inl (.head _)) (.inr (Nz2.get (by k_mem))) (.inr (Nz2.get (by k_mem))))
 have tk2 : TupKeep s.heap h2 := off_tk hoff (all1 (look hoe (nt_dict ce)))
 have kd : ∀ {K : Type} [DecidableEq K] {dk : DKind prog w K} {b ld}, b ≠ Y.e -> DictAt dk s.heap b ld -> DictAt dk h2 b ld := fun n D => D.keep (fun o e => hoff _ _ (nin1 (n)) e) tk2
 refine x12 V.S fun lf Sf hf => ?_
 have fe : Y.f ≠ Y.e := fun q => Sf.exP fun o' e' c' => by
  rw [q, hoe] at e'; cases e'
  rw [ce] at c'; exact absurd c' (by decide)
 refine hR _ _ { Y with le := setV Y.le k jv } hoff tk2 ⟨hoff _ _ (nin1 (Ne.symm e1)) V.ox, hoff _ _ (nin1 (Ne.symm e2)) V.od, V.x0, V.d0, V.p0, V.px, V.pd, (fun b pb => if q : b = Y.e then ⟨o2, q ▸ ho2⟩ else x11 (V.pa b pb) fun o e => ⟨o, hoff _ _ (nin1 (q)) e⟩), kk.dk.keep V.vi tk2, kd V.te V.top, V.pt, V.val, fun a ha => ⟨kd (V.dne a ha).2 (V.inn a ha).1, (V.inn a ha).2⟩, fun a ha lab u hu => x12 (V.sval a ha lab u hu) fun k' e i => ⟨k', e, kk.dk.keep i tk2⟩, V.has, V.dinj, V.dne, D2, V.pe, fun a u hu => ?_, fun a k' hak => ?_, V.te, V.pf, ⟨lf, Sf.keep (fun o e => hoff _ _ (nin1 (fe)) e) tk2, hf⟩, V.okl, fun a ha => ?_⟩
 ·refine (mem_setV.mp hu).elim (fun e => ?_) fun r => ?_
  ·cases e
   exact ⟨_, if_pos rfl, kk.dk.keep hjv tk2⟩
  ·refine x12 (V.dval _ _ r.2) fun k' e i => ?_
   exact ⟨k', (if_neg r.1).trans e, kk.dk.keep i tk2⟩
 ·by_cases e : a = k
  ·exact keyIn (mem_setV.mpr (.inl (by rw [e])))
  ·exact keyVal (V.dhas _ _ ((if_neg e).symm.trans hak)) fun u hu => keyIn (mem_setV.mpr (.inr ⟨e, hu⟩))
 ·exact keyVal ha fun u hu => (mem_setV.mp hu).elim (fun e => by cases e; exact hgk) fun r => V.oke _ (keyIn r.2)
theorem DfaM.put {h h' : Heap} {k j : K} {lab : Str} {d : Addr} {jv : Value} {l' : List (K × Value)} {li' : List (Str × Value)} {P' : Addr -> Prop} (V : DfaM kk hz0 P h x Y M)
  (h1 : DictAt kk.dk h' Y.t l') (h2 : ∀ a v, (a, v) ∈ l' ↔ (a = k /\ v = .ref d) ∨ (a ≠ k /\ (a, v) ∈ Y.l))
  (h3 : DictAt (dStr prog w) h' d li') (h4 : ∀ lab' u, (lab', u) ∈ li' ↔ (lab' = lab /\ u = jv) ∨ (lab' ≠ lab /\ k ∈ Y.l.map (·.1) /\ (lab', u) ∈ Y.lOf k))
  (hjv : kk.dk.is h' j jv) (tk : TupKeep h h') (kp : ∀ b o, b ≠ Y.t -> b ≠ d -> h.get? b = some o -> h'.get? b = some o)
  (hp : ∀ b, P b -> P' b) (p0 : ∀ b, P' b -> hz0.get? b = none) (px : ¬ P' x) (pd : ¬ P' Y.dx) (pp : ∀ b, P' b -> P b ∨ b = d) (ps : P' d) (hdt : d ≠ Y.t) (hde : d ≠ Y.e) (hdf : d ≠ Y.f)
  (d1 : k ∈ Y.l.map (·.1) -> d = Y.dOf k) (d2 : k ∉ Y.l.map (·.1) -> ∀ a ∈ Y.l.map (·.1), Y.dOf a ≠ d) (gk : M.gk k) (gl : M.gl lab) :
  DfaM kk hz0 P' h' x { Y with l := l', dOf := fun a => if a = k then d else Y.dOf a, lOf := fun a => if a = k then li' else Y.lOf a } { M with tr := fun a lab' => if a = k /\ lab' = lab then some j else M.tr a lab' } := by
 have keys := kvKeys h2
 have lkeys := kvKeysS h4
 have nd : ∀ a, a ≠ k -> a ∈ Y.l.map (·.1) -> Y.dOf a ≠ d := fun a e r => by
  by_cases hs : k ∈ Y.l.map (·.1)
  ·rw [d1 hs]; exact fun q => e (V.dinj _ _ r hs q)
  ·exact d2 hs a r
 refine x12 V.S fun lf Sf hf => ?_
 have ft : Y.f ≠ Y.t := fun q => Sf.exP fun o' e' c' => V.top.exP fun o e c => by
  rw [q, e] at e'; cases e'
  rw [c] at c'; exact absurd c' (by decide)
 have xt : x ≠ Y.t := fun q => V.px (q ▸ V.pt)
 have dxt : Y.dx ≠ Y.t := fun q => V.pd (q ▸ V.pt)
 have xd : x ≠ d := fun q => px (q ▸ ps)
 have dxd : Y.dx ≠ d := fun q => pd (q ▸ ps)
 refine ⟨kp _ _ xt xd V.ox, kp _ _ dxt dxd V.od, V.x0, V.d0, p0, px, pd, (fun b pb => ?pa), kk.dk.keep V.vi tk, h1, hp _ V.pt, fun a v hv => ?_, fun a ha => ?_, fun a ha lb u hu => ?_, fun a lb k' hk' => ?_, fun a a' ha ha' e => ?_, fun a ha => ?_,
  V.dtop.keep (fun o e => kp _ o (Ne.symm V.te) (Ne.symm hde) e) tk, hp _ V.pe, fun a u hu => x12 (V.dval a u hu) fun k' e i => ⟨k', e, kk.dk.keep i tk⟩, V.dhas, V.te, hp _ V.pf, ⟨lf, Sf.keep (fun o e => kp _ o ft (Ne.symm hdf) e) tk, hf⟩, fun a ha => ?_, V.oke⟩
 case pa =>
  by_cases q1 : b = Y.t
  ·exact h1.exP fun o e _ => ⟨o, q1 ▸ e⟩
  by_cases q2 : b = d
  ·exact h3.exP fun o e _ => ⟨o, q2 ▸ e⟩
  exact x11 (V.pa b ((pp b pb).resolve_right q2)) fun o e => ⟨o, kp _ _ q1 q2 e⟩
 ·exact ((h2 a v).mp hv).elim (fun r => by rw [r.2]; exact congrArg Value.ref (if_pos r.1).symm) fun r => (V.val a v r.2).trans (congrArg Value.ref (if_neg r.1).symm)
 ·show DictAt (dStr prog w) h' (if a = k then d else Y.dOf a) (if a = k then li' else Y.lOf a) /\ P' (if a = k then d else Y.dOf a)
  by_cases e : a = k
  ·rw [if_pos e, if_pos e]; exact ⟨h3, ps⟩
  ·have r := ((keys a).mp ha).resolve_left e
   have V' := V.inn a r.2
   rw [if_neg e, if_neg e]
   exact ⟨keep_dS V'.1 fun o eo => kp _ o (V.dne a r.2).1 (nd a e r.2) eo, hp _ V'.2⟩
 ·have hu : (lb, u) ∈ if a = k then li' else Y.lOf a := hu
  by_cases e : a = k
  ·rw [if_pos e] at hu
   refine ((h4 lb u).mp hu).elim (fun r => ?_) fun r => ?_
   ·rw [r.2]; exact ⟨j, if_pos ⟨e, r.1⟩, hjv⟩
   ·refine x12 (V.sval k r.2.1 lb u r.2.2) fun k' e' i => ?_
    exact ⟨k', (if_neg fun q => r.1 q.2).trans (e ▸ e'), kk.dk.keep i tk⟩
  ·rw [if_neg e] at hu
   refine x12 (V.sval a (((keys a).mp ha).resolve_left e).2 lb u hu) fun k' e' i => ?_
   exact ⟨k', (if_neg fun q => e q.1).trans e', kk.dk.keep i tk⟩
 ·show a ∈ l'.map (·.1) /\ lb ∈ (if a = k then li' else Y.lOf a).map (·.1)
  by_cases e : a = k
  ·rw [if_pos e]
   refine ⟨(keys a).mpr (.inl e), ?_⟩
   by_cases q : lb = lab
   ·exact (lkeys lb).mpr (.inl q)
   ·have r := V.has _ _ _ ((if_neg fun p => q p.2).symm.trans hk')
    rw [e] at r
    exact (lkeys lb).mpr (.inr ⟨q, r.1, r.2⟩)
  ·have r := V.has _ _ _ ((if_neg fun p => e p.1).symm.trans hk')
   rw [if_neg e]
   exact ⟨(keys a).mpr (.inr ⟨e, r.1⟩), r.2⟩
 ·have e : (if a = k then d else Y.dOf a) = if a' = k then d else Y.dOf a' := e
  by_cases e1 : a = k <;> by_cases e2 : a' = k
  ·exact e1.trans e2.symm
  ·rw [if_pos e1, if_neg e2] at e; exact absurd e.symm (nd a' e2 (((keys a').mp ha').resolve_left e2).2)
  ·rw [if_neg e1, if_pos e2] at e; exact absurd e (nd a e1 (((keys a).mp ha).resolve_left e1).2)
  ·rw [if_neg e1, if_neg e2] at e; exact V.dinj _ _ (((keys a).mp ha).resolve_left e1).2 (((keys a').mp ha').resolve_left e2).2 e
 ·show (if a = k then d else Y.dOf a) ≠ Y.t /\ (if a = k then d else Y.dOf a) ≠ Y.e
  by_cases e : a = k
  ·rw [if_pos e]; exact ⟨hdt, hde⟩
  ·rw [if_neg e]; exact V.dne a (((keys a).mp ha).resolve_left e).2
 ·by_cases e : a = k
  ·refine ⟨e ▸ gk, fun lb hl => ?_⟩
   have hl : lb ∈ (if a = k then li' else Y.lOf a).map (·.1) := hl
   rw [if_pos e] at hl
   exact ((lkeys lb).mp hl).elim (fun r => r ▸ gl) fun r => (V.okl k r.2.1).2 lb r.2.2
  ·have r := (((keys a).mp ha).resolve_left e).2
   exact ⟨(V.okl a r).1, fun lb hl => (V.okl a r).2 lb (by
    have hl : lb ∈ (if a = k then li' else Y.lOf a).map (·.1) := hl
    rw [if_neg e] at hl; exact hl)⟩
theorem d_add_trans {k j : K} {kv jv : Value} {lab : Str} {tl : Tok} (H : Base (hd.heap_1 w.params) p loose mean mg mb hz0) (hk : ∀ b o, hz0.get? b = some o -> s.heap.get? b = some o)
  (V : DfaM kk hz0 P s.heap x Y M) (hkv : kk.dk.is s.heap k kv) (hjv : kk.dk.is s.heap j jv) (gk : M.gk k) (gl : M.gl lab) (hb : ∀ m : List K, m.Nodup -> (∀ a ∈ m, M.gk a) -> m.length ≤ 18) (hbl : ∀ m : List Str, m.Nodup -> (∀ a ∈ m, M.gl a) -> m.length ≤ 18)
  (hd1 : dp + 5 < recursionLimit) (hu : un + 20 < cLine)
  (hR : ∀ h' tk Y' P', (∀ b o, ¬ P b -> s.heap.get? b = some o -> h'.get? b = some o) -> TupKeep s.heap h' -> (∀ b, P' b -> P b ∨ s.heap.get? b = none) -> DfaM kk hz0 P' h' x Y' { M with tr := fun a lab' => if a = k /\ lab' = lab then some j else M.tr a lab' } -> R (.ok (.ret .none)) { s with heap := h', toks := tk }) :
  codeAny (model prog w) (A0 dp un fr gd) (.call (.ref 259) ⟨[.ref x, kv, .str lab tl, jv], []⟩) R s := by
 refine V.top.exP fun ot hot ct => ?_
 have tx : Y.t ≠ x := fun q => V.px (q ▸ V.pt)
 have tdx : Y.t ≠ Y.dx := fun q => V.pd (q ▸ V.pt)
 have lenl : Y.l.length ≤ 18 := by
  exact lenMap (hb (Y.l.map (·.1)) V.top.nodup fun a ha => (V.okl a ha).1)
 refine x12 V.S fun lf Sf hf => ?_
 refine Sf.exP fun of hof cf => ?_
 by_cases hkm : k ∈ Y.l.map (·.1)
 ·refine x02 (V.inn k hkm) fun Dd pdd => ?_
  refine keyVal hkm fun v0 hv0 => ?_
  rw [V.val _ _ hv0] at hv0
  refine Dd.exP fun od hod cd => ?_
  have dx1 : Y.dOf k ≠ x := fun q => V.px (q ▸ pdd)
  have dx2 : Y.dOf k ≠ Y.dx := fun q => V.pd (q ▸ pdd)
  refine x02 (V.dne _ hkm) fun dt de => ?_
  have lenli : (Y.lOf k).length ≤ 18 := by
   exact lenMap (hbl ((Y.lOf k).map (·.1)) Dd.nodup fun a ha => (V.okl _ hkm).2 a ha)
  have hN : ∀ q ∈ [(Y.dOf k, od), (x, instObj 327 Y.dx), (Y.dx, Y.obj w)], s.heap.get? q.1 = some q.2 /\ hz0.get? q.1 = none := allC ⟨hod, V.p0 _ pdd⟩ V.led
  generalize hdd : Y.dOf k = d at *
  k_dflt (apply enter; assumption; assumption; assumption; k_is; k_is; exact Nat.lt_of_le_of_lt (Nat.le_add_right _ _) (by assumption); exact BindsTo.of_eq rfl; exact locs rfl; exact rfl; exact rfl; exact rfl; decide; k_whole; intro _ _ _ _ _ _ _ _ _; (try dsimp only); (try k_fold))
  rename_i g hz1 Hg Hs Hk F N X T
  have tkg := tk_hide Hg (fun q hq => (hN q hq).1) (allC (nt_dict cd) V.ledT)
  have Tg := V.top.keep (h' := g) (fun o e => Hg _ _ e (nin3 (Ne.symm dt) tx tdx)) tkg
  have hkg := kk.dk.keep hkv tkg
  o_steps
  (rename Fr _ _ _ _ => F1; rename News _ _ _ _ => N1; try rename Heap => hz1')
  refine meth_dict (Tg.fr F1) PySem.F.slot_dict_setdefault PySem.F.type_dict_setdefault ?_
  o_steps
  (rename Fr _ _ _ _ => Fz2; rename News _ _ _ _ => Nz2; try rename Heap => hzz2)
  refine setdefault_old (l := Y.l) (dk := kk.dk) (k := k) (v := .ref d) ?_ ?_ ?_ hv0 fun tk2 => ?_
  ·exact Tg.fr Fz2
  ·o_norm
  ·exact kk.dk.keep hkg fun b o e _ => Fz2.keep b o e
  have N2' := news_tail Nz2
  clear Nz2
  o_steps
  refine setItem_at (dk := dStr prog w) (l := Y.lOf k) (k := lab) (keep_dS Dd (look hod (N2'.get (by k_mem)))) ?_ ⟨_, rfl⟩ (by rw [sizeLine_eq]; lia) fun h3 tk3 D3 hs3 => ?_
  ·o_norm
  refine D3.hit Fz2 N2' (nqC (Ne.symm dx1) (nqC (Ne.symm dx2) nqN)) hs3 fun o3 ho3 Fz3 Nz3 => ?_
  clear Fz2 N2'
  o_steps
  have hoff : OffKeep [d] s.heap h3 := off_end Fz3 Hg (fun q hq => (hN q hq).1) (all3 (.inl (.head _)) (.inr (Nz3.get (by k_mem))) (.inr (Nz3.get (by k_mem))))
  have tk9 : TupKeep s.heap h3 := off_tk hoff (all1 (look hod (nt_dict cd)))
  have q2 := kvOld hv0 fun v h => (V.val _ _ h).trans (congrArg Value.ref hdd)
  have q4 := kvSetS (v0 := jv) hkm (Y.lOf k) lab
  have hdf : d ≠ Y.f := fun q => by
   rw [q, hof] at hod; cases hod
   rw [cf] at cd; exact absurd cd (by decide)
  refine hR _ _ _ P (fun b o nb e => hoff _ _ (nin1 fun q => nb (q ▸ pdd)) e) tk9 (fun _ q => .inl q) (V.put (d := d) (jv := jv) (l' := Y.l) (li' := setV (Y.lOf k) lab jv) (P' := P) (V.top.keep (fun o e => hoff _ _ (nin1 (Ne.symm dt)) e) tk9) q2 D3 q4 (kk.dk.keep hjv tk9) tk9 (fun b o _ n2 e => hoff _ _ (nin1 (n2)) e) (fun _ q => q) V.p0 V.px V.pd (fun _ q => .inl q) pdd dt de hdf (fun _ => hdd.symm) (fun q => absurd hkm q) gk gl)
 ·have hN : ∀ q ∈ [(Y.t, ot), (x, instObj 327 Y.dx), (Y.dx, Y.obj w)], s.heap.get? q.1 = some q.2 /\ hz0.get? q.1 = none := allC ⟨hot, V.p0 _ V.pt⟩ V.led
  k_dflt (apply enter; assumption; assumption; assumption; k_is; k_is; exact Nat.lt_of_le_of_lt (Nat.le_add_right _ _) (by assumption); exact BindsTo.of_eq rfl; exact locs rfl; exact rfl; exact rfl; exact rfl; decide; k_whole; intro _ _ _ _ _ _ _ _ _; (try dsimp only); (try k_fold))
  rename_i g hz1 Hg Hs Hk F N X T
  have tkg := tk_hide Hg (fun q hq => (hN q hq).1) (allC (nt_dict ct) V.ledT)
  have hkg := kk.dk.keep hkv tkg
  o_steps
  (rename Fr _ _ _ _ => F1; rename News _ _ _ _ => N1; try rename Heap => hz1')
  have Dt0 := V.top
  refine meth_dict (dk := kk.dk) (ld := Y.l) (Dt0.keep (fun o e => by rw [hot] at e; cases e; exact N1.get (by k_mem)) (tkg.trans fun b o e _ => F1.keep b o e)) PySem.F.slot_dict_setdefault PySem.F.type_dict_setdefault ?_
  o_steps
  rename_i d0 hA o0 FX NX lo0 hs0 fs0 hi0 fi0 l10
  (rename Fr _ _ _ _ => Fz2; rename News _ _ _ _ => Nz2; try rename Heap => hzz2)
  have hgd : g.get? d0 = none := Nz2.fresh (o := o0) (by k_mem)
  have b1 : d0 ≠ Y.t := Nat.ne_of_gt l10.1
  have b2 : d0 ≠ x := Nat.ne_of_gt l10.2.1
  have b3 : d0 ≠ Y.dx := Nat.ne_of_gt l10.2.2
  have tk2 : TupKeep s.heap hzz2 := tkg.trans fun b o e _ => Fz2.keep b o e
  refine setdefault_new (l := Y.l) (dk := kk.dk) (k := k) ?_ ?_ ?_ hkm ?_ fun h3 tk3 D3 hs3 => ?_
  ·exact Dt0.keep (fun o e => by rw [hot] at e; cases e; exact Nz2.get (by k_mem)) tk2
  ·o_norm
  ·exact kk.dk.keep hkv tk2
  ·rw [sizeLine_eq]; lia
  refine D3.hit1 Fz2 Nz2 b1 (nqC (Ne.symm tx) (nqC (Ne.symm tdx) nqN)) hs3 fun o3 ho3 Fz3 Nz3 => ?_
  clear Fz2 Nz2
  have Dd0 : DictAt (dStr prog w) h3 d0 [] := dictAt_new (Nz3.get (o := o0) (by k_mem)) hi0 lo0
  clear hs0 hi0 fs0 fi0
  o_steps
  refine setItem_at (dk := dStr prog w) (l := []) (k := lab) Dd0 ?_ ⟨_, rfl⟩ (Nat.zero_le _) fun h4 tk4 D4 hs4 => ?_
  ·o_norm
  refine D4.hit Fz3 Nz3 (nqC (Ne.symm b1) (nqC (Ne.symm b2) (nqC (Ne.symm b3) nqN))) hs4 fun o4 ho4 F4 N4 => ?_
  clear Fz3 Nz3
  o_steps
  have hoff : OffKeep [Y.t] s.heap h4 := off_end F4 Hg (fun q hq => (hN q hq).1) (all3 (.inl (.head _)) (.inr (N4.get (by k_mem))) (.inr (N4.get (by k_mem))))
  have tk9 : TupKeep s.heap h4 := off_tk hoff (all1 (look hot (nt_dict ct)))
  have fd : s.heap.get? d0 = none := backNone Hg hgd (nin3 b1 b2 b3)
  have hd00 : hz0.get? d0 = none := none_sub (sub_hide Hg hk (fun q hq => (hN q hq).2)) (N4.fresh (o := o4) (by k_mem))
  have q2 := kvNew (v0 := .ref d0) hkm
  have q4 := kvOne (k0 := lab) (v0 := jv) (A := fun lb u => (lb, u) ∈ Y.lOf k) hkm
  have ne0 : ∀ b o, s.heap.get? b = some o -> d0 ≠ b := fun b o e q => by rw [q, e] at fd; cases fd
  refine V.dtop.exP fun oe hoe _ => ?_
  refine Dd0.exP fun oD hoD cD => ?_
  refine hR _ _ _ (fun b => P b ∨ b = d0) (fun b o nb e => hoff _ _ (nin1 fun q => nb (q ▸ V.pt)) e) tk9 (fun b q => q.elim .inl fun q => .inr (by rw [q]; exact fd)) (V.put (d := d0) (jv := jv) (l' := Y.l ++ [(k, .ref d0)]) (li' := setV [] lab jv) (P' := fun b => P b ∨ b = d0) (D3.keep (fun o e => (hs4.2 _ (Ne.symm b1)).trans e) (tk_same hs4 hoD (nt_dict cD))) q2 D4 q4 (kk.dk.keep hjv tk9) tk9 (fun b o n1 _ e => hoff _ _ (nin1 (n1)) e) (fun _ q => .inl q) (fun b q => q.elim (V.p0 b) fun q => q ▸ hd00) (fun q => q.elim V.px fun q => b2 q.symm) (fun q => q.elim V.pd fun q => b3 q.symm) (fun _ q => q) (.inr rfl) b1 (ne0 _ _ hoe) (ne0 _ _ hof) (fun q => absurd q hkm) (fun _ a ha => by
   obtain ⟨⟨_, es, ep, e', _⟩, _⟩ := V.inn a ha
   exact Ne.symm (ne0 _ _ e')) gk gl)
end
-- TupL
section
open PySem PySem.W PyProof.Rows PySem.Calls
inductive TupsAre (h : Heap) : List Value -> List (List Int) -> Prop
 | nil : TupsAre h [] []
 | cons {b : Addr} {k : List Int} {vs : List Value} {l : List (List Int)} : IsTI h k b -> TupsAre h vs l -> TupsAre h (.ref b :: vs) (k :: l)
theorem TupsAre.keep {h h' : Heap} (tk : TupKeep h h') {vs : List Value} {l : List (List Int)} (x : TupsAre h vs l) : TupsAre h' vs l := by
 induction x with
 | nil => exact .nil
 | cons x _ ih => exact .cons (x.tk tk) ih
theorem TupsAre.len {h : Heap} {vs : List Value} {l : List (List Int)} (x : TupsAre h vs l) : vs.length = l.length := by
 induction x with
 | nil => rfl
 | cons _ _ ih => exact congrArg Nat.succ ih
theorem TupsAre.append {h : Heap} {vs us : List Value} {l m : List (List Int)} (x : TupsAre h vs l) (r : TupsAre h us m) : TupsAre h (vs ++ us) (l ++ m) := by
 induction x with
 | nil => exact r
 | cons x _ ih => exact .cons x ih
theorem TupsAre.uncons {h : Heap} {v : Value} {vs : List Value} {l : List (List Int)} (x : TupsAre h (v :: vs) l) : ∃ b k l', l = k :: l' /\ v = .ref b /\ IsTI h k b /\ TupsAre h vs l' := by
 cases x with
 | cons x r => exact ⟨_, _, _, rfl, rfl, x, r⟩
theorem TupsAre.nil_inv {h : Heap} {l : List (List Int)} (x : TupsAre h [] l) : l = [] := by
 cases x; rfl
theorem TupsAre.concat {h : Heap} {v : Value} : ∀ (vs : List Value) (l : List (List Int)), TupsAre h (vs ++ [v]) l -> ∃ l' k b, l = l' ++ [k] /\ v = .ref b /\ IsTI h k b /\ TupsAre h vs l' := by
 intro vs
 induction vs with
 | nil =>
  intro l x
  refine x34 (TupsAre.uncons x) fun b k l' q91 e y r => ?_; subst q91
  rw [r.nil_inv]
  exact ⟨[], k, b, rfl, e, y, .nil⟩
 | cons u vs ih =>
  intro l x
  refine x34 (TupsAre.uncons x) fun b k l' q92 q93 y r => ?_; subst q92; subst q93
  refine x34 (ih _ r) fun l2 k2 b2 q94 e2 y2 r2 => ?_; subst q94
  exact ⟨k :: l2, k2, b2, rfl, e2, y2, .cons y r2⟩
end
-- DInit
section
open PySem PySem.W PyProof.Rows PySem.Calls
theorem off_DInit : True := by
 w_top off
 trivial
variable {prog : Program} {w : World} {p : Program} {loose : List Str} {mean : ExcName -> Option Value} {mg mb : Str -> Option Value} {hz0 : Heap}
variable {s : Shared} {dp un : Nat} {fr : List Env} {gd : Option (List Code)} {R : Result -> Shared -> Prop}
variable {K : Type} [DecidableEq K] {kk : KK prog w K} {x dx : Addr}
theorem d_init {k0 : K} {v0 : Value} {gk : K -> Prop} {gl : Str -> Prop} (H : Base (hd.heap_1 w.params) p loose mean mg mb hz0) (hk : ∀ b o, hz0.get? b = some o -> s.heap.get? b = some o)
  (hN : ∀ q ∈ [(x, instObj 327 dx), (dx, dictOf [] 0)], s.heap.get? q.1 = some q.2 /\ hz0.get? q.1 = none) (hlt : @LT.lt Nat _ dx x)
  (hv : (∃ b, v0 = .ref b) ∨ ∃ n t, v0 = .int n t) (hkv : kk.dk.is s.heap k0 v0)
  (hd1 : dp + 9 < recursionLimit) (hu : un + 40 < cLine)
  (hR : ∀ h' tk Y P, OffKeep [dx] s.heap h' -> (∀ b, P b -> s.heap.get? b = none) -> Y.dx = dx -> Y.v0 = v0 -> DfaM kk hz0 P h' x Y ⟨k0, fun _ _ => none, fun _ => none, fun _ => False, gk, gl⟩ -> R (.ok (.ret .none)) { s with heap := h', toks := tk }) :
  codeAny (model prog w) (A0 dp un fr gd) (.call (.ref 245) ⟨[.ref x, v0], []⟩) R s := by
 k_dflt (apply enter; assumption; assumption; assumption; k_is; k_is; exact Nat.lt_of_le_of_lt (Nat.le_add_right _ _) (by assumption); exact BindsTo.of_eq rfl; exact locs rfl; exact rfl; exact rfl; exact rfl; decide; k_whole; intro _ _ _ _ _ _ _ _ _; (try dsimp only); (try k_fold))
 rename_i g hz1 Hg Hs Hk F N X T
 o_steps
 rename_i hA1 dA hA2 oA loA hsA fsA hiA fiA lA hB1 dB hB2 oB loB hsB fsB hiB fiB lB hC FX NX
 (rename Fr _ _ _ _ => F1; rename News _ _ _ _ => N1; try rename Heap => hz1')
 refine call_set0 (sk := kk.sk) (lim := 18) (by decide) fun h2 ds hk2 hr2 S2 => ?_
 refine x13 S2.cls fun o2 ho2 c2 _ => ?_
 have Fz2 := fr_stay F1 hk2
 have Nz2 := news_cons (news_stay N1 hk2) ho2 (fresh_off F1 hr2).1 (fresh_off F1 hr2).2
 have e1 : ds ≠ x := ne_get (N1.get (by k_mem)) hr2
 have e2 : ds ≠ dx := ne_get (N1.get (by k_mem)) hr2
 have e3 : ds ≠ dA := ne_get (N1.get (by k_mem)) hr2
 have e4 : ds ≠ dB := ne_get (N1.get (by k_mem)) hr2
 clear F1 N1
 o_steps
 rename_i hD1 dC hD2 oC loC hsC fsC hiC fiC lC hE FY NY
 (rename Fr _ _ _ _ => Fz3; rename News _ _ _ _ => Nz3; try rename Heap => hz3)
 have tkg := tk_hide Hg (fun q hq => (hN q hq).1) (by
  refine all2 ?_ ?_
  ·show (Value.ref 327) ≠ _; decide
  ·show (Value.type "dict") ≠ _; decide)
 have hoff : OffKeep [dx] s.heap hz3 := off_end Fz3 Hg (fun q hq => (hN q hq).1) (by
  refine all2 ?_ ?_
  ·exact .inr (Nz3.get (by k_mem))
  ·exact .inl (by omega_side))
 have tk3 : TupKeep s.heap hz3 := tkg.trans fun b o e _ => Fz3.keep b o e
 have fresh : ∀ r, g.get? r = none -> r ≠ x -> r ≠ dx -> s.heap.get? r = none := fun r hg n2 n3 => by
  cases e : s.heap.get? r with
  | none => rfl
  | some o => rw [Hg _ _ e (by simp [n2, n3])] at hg; cases hg
 have gA : g.get? dA = none := Nz3.fresh (o := oA) (by k_mem)
 have gB : g.get? dB = none := Nz3.fresh (o := oB) (by k_mem)
 have gS : g.get? ds = none := Nz3.fresh (o := o2) (by k_mem)
 have sub0 := sub_hide Hg hk (fun q hq => (hN q hq).2)
 have hAx : dA ≠ x := Nat.ne_of_gt lA.1
 have hAd : dA ≠ dx := Nat.ne_of_gt lA.2
 have hBx : dB ≠ x := Nat.ne_of_gt lB.2.1
 have hBd : dB ≠ dx := Nat.ne_of_gt lB.2.2
 have hAB : dA ≠ dB := Nat.ne_of_lt lB.1
 have S3 : SetAt kk.sk 18 hz3 ds [] := S2.empty_at ho2 (Nz3.get (by k_mem))
 refine hR _ _ ⟨dx, dA, dB, ds, dC, _, _, _, _, _, _, _, [], [], fun _ => 0, fun _ => []⟩ (fun b => b = dA ∨ b = dB ∨ b = ds) hoff ?_ rfl rfl ⟨Nz3.get (by k_mem), Nz3.get (by k_mem), (hN _ (List.Mem.head _)).2, (hN _ (List.Mem.tail _ (List.Mem.head _))).2, ?_, ?_, ?_, ?_, kk.dk.keep hkv tk3, dictAt_new (Nz3.get (o := oA) (by k_mem)) hiA loA, .inl rfl, (fun a v h => nomatch h), (fun a h => nomatch h), (fun a h => nomatch h), (fun a lab k' h => nomatch h), (fun a a' h => nomatch h), (fun a h => nomatch h), dictAt_new (Nz3.get (o := oB) (by k_mem)) hiB loB, .inr (.inl rfl), (fun a v h => nomatch h), (fun a k' h => nomatch h), hAB, .inr (.inr rfl), ⟨[], S3, fun a => by simp⟩, (fun a h => nomatch h), (fun a h => nomatch h)⟩
 ·rintro b (rfl | rfl | rfl)
  ·exact fresh _ gA hAx hAd
  ·exact fresh _ gB hBx hBd
  ·exact fresh _ gS e1 e2
 ·rintro b (rfl | rfl | rfl)
  ·exact none_sub sub0 gA
  ·exact none_sub sub0 gB
  ·exact none_sub sub0 gS
 ·rintro (q | q | q)
  ·exact hAx q.symm
  ·exact hBx q.symm
  ·exact e1 q.symm
 ·rintro (q | q | q)
  ·exact hAd q.symm
  ·exact hBd q.symm
  ·exact e2 q.symm
 ·rintro b (rfl | rfl | rfl)
  ·exact ⟨oA, Nz3.get (by k_mem)⟩
  ·exact ⟨oB, Nz3.get (by k_mem)⟩
  ·exact ⟨o2, Nz3.get (by k_mem)⟩
end
-- NMut
section
open PySem PySem.W PyProof.Rows PySem.Calls
theorem off_NMut : True := by
 w_top off
 trivial
variable {prog : Program} {w : World} {p : Program} {loose : List Str} {mean : ExcName -> Option Value} {mg mb : Str -> Option Value} {hz0 hq : Heap}
variable {s : Shared} {dp un : Nat} {fr : List Env} {gd : Option (List Code)} {R : Result -> Shared -> Prop}
variable {x dx t f : Addr} {i : Int} {Ar : Int -> Str -> Int -> Prop} {Fin : Int -> Prop} {t1 t2 t3 ti : Tok} {n : Nat}
theorem n_init (H : Base (hd.heap_1 w.params) p loose mean mg mb hz0) (hk : ∀ b o, hz0.get? b = some o -> s.heap.get? b = some o)
  (hN : ∀ q ∈ [(x, instObj 229 dx), (dx, dictOf [] 0)], s.heap.get? q.1 = some q.2 /\ hz0.get? q.1 = none) (hlt : @LT.lt Nat _ dx x)
  (hd1 : dp + 9 < recursionLimit) (hu : un + 40 < cLine)
  (hR : ∀ h' tk t f t1 t2 t3, OffKeep [dx] s.heap h' -> h'.get? dx = some (nfaD w t f (.int i ti) t1 t2 t3 3) -> s.heap.get? t = none -> s.heap.get? f = none -> DictAt (dInt prog w) h' t [] -> SetAt (skInt prog w) 7 h' f [] -> R (.ok (.ret .none)) { s with heap := h', toks := tk }) :
  codeAny (model prog w) (A0 dp un fr gd) (.call (.ref 156) ⟨[.ref x, .int i ti], []⟩) R s := by
 k_dflt (apply enter; assumption; assumption; assumption; k_is; k_is; exact Nat.lt_of_le_of_lt (Nat.le_add_right _ _) (by assumption); exact BindsTo.of_eq rfl; exact locs rfl; exact rfl; exact rfl; exact rfl; decide; k_whole; intro _ _ _ _ _ _ _ _ _; (try dsimp only); (try k_fold))
 rename_i g hz1 Hg Hs Hk F N X T
 o_steps
 rename_i d1 hA o1 lo1 hs1 fs1 hi1 fi1 l1 hB FX NX
 (rename Fr _ _ _ _ => F1; rename News _ _ _ _ => N1; try rename Heap => hz1')
 refine call_set0 (sk := skInt prog w) (lim := 7) (by decide) fun h2 ds hk2 hr2 S2 => ?_
 refine x12 S2.toI fun o2 ho2 SI2 => ?_
 have Fz2 := fr_stay F1 hk2
 have Nz2 := news_cons (news_stay N1 hk2) ho2 (fresh_off F1 hr2).1 (fresh_off F1 hr2).2
 have e1 : ds ≠ x := ne_get (N1.get (by k_mem)) hr2
 have e2 : ds ≠ dx := ne_get (N1.get (by k_mem)) hr2
 have e3 := ne_get (N1.get (List.Mem.head _)) hr2
 clear F1 N1
 o_steps
 (rename Fr _ _ _ _ => Fz3; rename News _ _ _ _ => Nz3; try rename Heap => hz3)
 have hNn := fun q hq => (hN q hq).1
 refine hR _ _ d1 ds _ _ _ (off_end Fz3 Hg hNn ?_) (Nz3.get (by k_mem)) ?_ ?_ (dictAt_new (Nz3.get (o := o1) (by k_mem)) hi1 lo1) (SI2.at (Nz3.get (by k_mem)))
 ·intro q hq
  simp only [List.mem_cons, List.not_mem_nil, or_false] at hq
  rcases hq with rfl | rfl
  ·exact .inr (Nz3.get (by k_mem))
  ·exact .inl (by omega_side)
 ·have hd : g.get? d1 = none := Nz3.fresh (o := o1) (by k_mem)
  cases e : s.heap.get? d1 with
  | none => rfl
  | some o =>
   by_cases q : d1 ∈ [(x, instObj 229 dx), (dx, dictOf [] 0)].map (·.1)
   ·simp only [List.map_cons, List.map_nil, List.mem_cons, List.not_mem_nil, or_false] at q
    rcases q with rfl | rfl <;> omega
   ·rw [Hg _ _ e q] at hd; cases hd
 ·have hd : g.get? ds = none := Nz3.fresh (o := o2) (by k_mem)
  cases e : s.heap.get? ds with
  | none => rfl
  | some o =>
   by_cases q : ds ∈ [(x, instObj 229 dx), (dx, dictOf [] 0)].map (·.1)
   ·simp only [List.map_cons, List.map_nil, List.mem_cons, List.not_mem_nil, or_false] at q
    exact (q.elim e1 e2).elim
   ·rw [Hg _ _ e q] at hd; cases hd
end
-- NAdd
section
open PySem PySem.W PyProof.Rows PySem.Calls
theorem off_NAdd : True := by
 w_top off
 trivial
structure NfaMut (prog : Program) (w : World) (hz0 : Heap) (P : Addr -> Prop) (h : Heap) (x : Addr) (i : Int) (Ar : Int -> Str -> Int -> Prop) (Fin : Int -> Prop) (dx t f : Addr) (t1 t2 t3 ti : Tok) (n : Nat) (l : List (Int × Value)) (dOf : Int -> Addr) (lOf : Int -> List (Str × Value)) (sOf : Int -> Str -> Addr) : Prop where
 ox : h.get? x = some (instObj 229 dx)
 od : h.get? dx = some (nfaD w t f (.int i ti) t1 t2 t3 n)
 x0 : hz0.get? x = none
 d0 : hz0.get? dx = none
 p0 : ∀ b, P b -> hz0.get? b = none
 px : ¬ P x
 pd : ¬ P dx
 pa : ∀ b, P b -> ∃ o, h.get? b = some o
 O : TrOwn prog w h P t Ar l dOf lOf sOf
 pf : P f
 S : ∃ lf, SetAt (skInt prog w) 7 h f lf /\ ∀ a, a ∈ lf ↔ Fin a
 fne : ∀ a, a ∈ l.map (·.1) -> ∀ lab, lab ∈ (lOf a).map (·.1) -> sOf a lab ≠ f
section
variable {prog : Program} {w : World} {hz0 h h' : Heap} {P : Addr -> Prop} {x dx t f : Addr} {i : Int} {Ar : Int -> Str -> Int -> Prop} {Fin : Int -> Prop} {t1 t2 t3 ti : Tok} {n : Nat} {l : List (Int × Value)} {dOf : Int -> Addr} {lOf : Int -> List (Str × Value)} {sOf : Int -> Str -> Addr}
theorem NfaMut.at (V : NfaMut prog w hz0 P h x i Ar Fin dx t f t1 t2 t3 ti n l dOf lOf sOf) : NfaAt prog w hz0 (only h P) h x i Ar Fin dx t f t1 t2 t3 ti n where
 ox := V.ox
 od := V.od
 x0 := V.x0
 d0 := V.d0
 sub := fun b o e => (of_only e).1
 qx := only_none V.px
 qd := only_none V.pd
 T := V.O.rel
 S := by
  refine x12 V.S fun lf S hf => ?_
  exact ⟨lf, keep_int S fun o e => only_get e V.pf, hf⟩
theorem NfaMut.move (V : NfaMut prog w hz0 P h x i Ar Fin dx t f t1 t2 t3 ti n l dOf lOf sOf) (k : ∀ b o, P b ∨ b = x ∨ b = dx -> h.get? b = some o -> h'.get? b = some o) : NfaMut prog w hz0 P h' x i Ar Fin dx t f t1 t2 t3 ti n l dOf lOf sOf where
 ox := k _ _ (.inr (.inl rfl)) V.ox
 od := k _ _ (.inr (.inr rfl)) V.od
 x0 := V.x0
 d0 := V.d0
 p0 := V.p0
 px := V.px
 pd := V.pd
 pa := fun b pb => x11 (V.pa b pb) fun o e => ⟨o, k _ o (.inl pb) e⟩
 O := V.O.move (fun b o p e => k b o (.inl p) e) fun _ p => p
 pf := V.pf
 S := by
  refine x12 V.S fun lf S hf => ?_
  exact ⟨lf, keep_int S fun o e => k _ o (.inl V.pf) e, hf⟩
 fne := V.fne
end
theorem news_tl {g h : Heap} {L : Addr} {q : Addr × Obj} {news : List (Addr × Obj)} (N : News g L h (q :: news)) : News g L h news := fun r hr => N r (List.Mem.tail _ hr)
theorem NfaMut.put {prog : Program} {w : World} {hz0 h h' : Heap} {P : Addr -> Prop} {x dx t f : Addr} {i : Int} {Ar : Int -> Str -> Int -> Prop} {Fin : Int -> Prop} {t1 t2 t3 ti : Tok} {n : Nat} {l : List (Int × Value)} {dOf : Int -> Addr} {lOf : Int -> List (Str × Value)} {sOf : Int -> Str -> Addr}
  {src : Int} {label : Str} {dest : Int} {d sa : Addr} {l' : List (Int × Value)} {li' : List (Str × Value)} {xs' : List Int} {P' : Addr -> Prop} (V : NfaMut prog w hz0 P h x i Ar Fin dx t f t1 t2 t3 ti n l dOf lOf sOf)
  (h1 : DictAt (dInt prog w) h' t l') (h2 : ∀ a v, (a, v) ∈ l' ↔ (a = src /\ v = .ref d) ∨ (a ≠ src /\ (a, v) ∈ l))
  (h3 : DictAt (dStr prog w) h' d li') (h4 : ∀ lab u, (lab, u) ∈ li' ↔ (lab = label /\ u = .ref sa) ∨ (lab ≠ label /\ src ∈ l.map (·.1) /\ (lab, u) ∈ lOf src))
  (h5 : SetAt (skInt prog w) 7 h' sa xs') (h6 : ∀ b, b ∈ xs' ↔ b = dest ∨ Ar src label b)
  (hp : ∀ b, P b -> P' b) (pd : P' d) (ps : P' sa) (hdt : d ≠ t)
  (d1 : src ∈ l.map (·.1) -> d = dOf src) (d2 : src ∉ l.map (·.1) -> ∀ a ∈ l.map (·.1), dOf a ≠ d)
  (s2 : ∀ a ∈ l.map (·.1), ∀ lab ∈ (lOf a).map (·.1), sOf a lab = sa -> a = src /\ lab = label)
  (k : ∀ b o, b ≠ t -> b ≠ d -> b ≠ sa -> h.get? b = some o -> h'.get? b = some o) (hsa : ∀ o, h.get? sa = some o -> o.cls = .type "set") (hdd : ∀ o, h.get? d = some o -> o.cls = .type "dict")
  (p0 : ∀ b, P' b -> hz0.get? b = none) (px : ¬ P' x) (pdx : ¬ P' dx) (pp : ∀ b, P' b -> P b ∨ b = d ∨ b = sa) (hsf : sa ≠ f) :
  ∃ l' dOf' lOf' sOf', NfaMut prog w hz0 P' h' x i (fun a lab b => Ar a lab b ∨ (a = src /\ lab = label /\ b = dest)) Fin dx t f t1 t2 t3 ti n l' dOf' lOf' sOf' := by
 refine x12 V.S fun lf Sf hf => ?_
 refine Sf.exP fun of hof cf => ?_
 have O' := V.O.put h1 h2 h3 h4 h5 h6 hp pd ps hdt d1 d2 s2 (fun b o _ n1 n2 n3 e => k b o n1 n2 n3 e) hsa hdd
 have tcls : ∀ o, h.get? t = some o -> o.cls = .type "dict" := V.O.top.exP fun o e c => look e c
 have fd : f ≠ d := fun q => by
  rw [hdd _ (q ▸ hof)] at cf; exact absurd cf (by decide)
 have ft : f ≠ t := fun q => by
  rw [tcls _ (q ▸ hof)] at cf; exact absurd cf (by decide)
 have ne : ∀ {b o}, h.get? b = some o -> o.cls ≠ .type "dict" -> o.cls ≠ .type "set" -> b ≠ t /\ b ≠ d /\ b ≠ sa := fun {b o} e c1 c2 => ⟨fun q => c1 (tcls _ (q ▸ e)), fun q => c1 (hdd _ (q ▸ e)), fun q => c2 (hsa _ (q ▸ e))⟩
 have nx := ne V.ox (show (Value.ref 229) ≠ _ by decide) (show (Value.ref 229) ≠ _ by decide)
 refine ⟨_, _, _, _, k _ _ nx.1 nx.2.1 nx.2.2 V.ox, ?_, V.x0, V.d0, p0, px, pdx, (fun b pb => ?pa), O', hp _ V.pf, ⟨lf, keep_int Sf fun o e => k _ o ft fd (Ne.symm hsf) e, hf⟩, fun a ha lab hl => ?_⟩
 case pa =>
  by_cases q1 : b = t
  ·exact h1.exP fun o e _ => ⟨o, q1 ▸ e⟩
  by_cases q2 : b = d
  ·exact h3.exP fun o e _ => ⟨o, q2 ▸ e⟩
  by_cases q3 : b = sa
  ·exact h5.exP fun o e _ => ⟨o, q3 ▸ e⟩
  exact x11 (V.pa b ((pp b pb).resolve_right fun q => q.elim q2 q3)) fun o e => ⟨o, k _ _ q1 q2 q3 e⟩
 ·refine k _ _ (fun q => ?_) (fun q => pdx (q ▸ pd)) (fun q => pdx (q ▸ ps)) V.od
  exact V.pd (q ▸ V.O.pt)
 ·by_cases q : a = src /\ lab = label
  ·rw [if_pos q]; exact hsf
  ·rw [if_neg q]
   have ha2 : a ∈ l.map (·.1) /\ lab ∈ (lOf a).map (·.1) := by
    by_cases e : a = src
    ·rw [if_pos e] at hl
     have r := ((kvKeysS h4 lab).mp hl).resolve_left fun e' => q ⟨e, e'⟩
     exact e ▸ r.2
    ·rw [if_neg e] at hl
     exact ⟨(((kvKeys h2 a).mp ha).resolve_left e).2, hl⟩
   exact V.fne a ha2.1 lab ha2.2
variable {prog : Program} {w : World} {p : Program} {loose : List Str} {mean : ExcName -> Option Value} {mg mb : Str -> Option Value} {hz0 hq : Heap}
variable {s : Shared} {dp un : Nat} {fr : List Env} {gd : Option (List Code)} {R : Result -> Shared -> Prop}
variable {x dx t f : Addr} {i : Int} {Ar : Int -> Str -> Int -> Prop} {Fin : Int -> Prop} {t1 t2 t3 ti : Tok} {n : Nat} {P : Addr -> Prop} {l : List (Int × Value)} {dOf : Int -> Addr} {lOf : Int -> List (Str × Value)} {sOf : Int -> Str -> Addr}
theorem n_add_final {k : Int} {tk0 : Tok} (H : Base (hd.heap_1 w.params) p loose mean mg mb hz0) (hk : ∀ b o, hz0.get? b = some o -> s.heap.get? b = some o)
  (V : NfaMut prog w hz0 P s.heap x i Ar Fin dx t f t1 t2 t3 ti n l dOf lOf sOf) (hb : ∀ m : List Int, m.Nodup -> (∀ a ∈ m, a = k ∨ Fin a) -> m.length ≤ 7)
  (hd1 : dp + 9 < recursionLimit) (hu : un + 40 < cLine)
  (hR : ∀ h' tk, OffKeep [f] s.heap h' -> NfaMut prog w hz0 P h' x i Ar (fun a => a = k ∨ Fin a) dx t f t1 t2 t3 ti n l dOf lOf sOf -> R (.ok (.ret .none)) { s with heap := h', toks := tk }) :
  codeAny (model prog w) (A0 dp un fr gd) (.call (.ref 177) ⟨[.ref x, .int k tk0], []⟩) R s := by
 refine x12 V.S fun lf Sf hf => ?_
 refine Sf.exI fun of hof SI => ?_
 have hN : ∀ q ∈ [(f, of), (x, instObj 229 dx), (dx, nfaD w t f (.int i ti) t1 t2 t3 n)], s.heap.get? q.1 = some q.2 /\ hz0.get? q.1 = none := allC ⟨hof, V.p0 _ V.pf⟩ V.at.led
 have e1 : f ≠ x := fun q => V.px (q ▸ V.pf)
 have e2 : f ≠ dx := fun q => V.pd (q ▸ V.pf)
 k_dflt (apply enter; assumption; assumption; assumption; k_is; k_is; exact Nat.lt_of_le_of_lt (Nat.le_add_right _ _) (by assumption); exact BindsTo.of_eq rfl; exact locs rfl; exact rfl; exact rfl; exact rfl; decide; k_whole; intro _ _ _ _ _ _ _ _ _; (try dsimp only); (try k_fold))
 rename_i g hz1 Hg Hs Hk F N X T
 o_steps
 (rename Fr _ _ _ _ => F1; rename News _ _ _ _ => N1; try rename Heap => hz1')
 refine meth_set (SI.at (N1.get (by k_mem))) PySem.F.slot_set_add PySem.F.type_set_add ?_
 o_steps
 refine call_add (sk := skInt prog w) (lim := 7) (l := lf) (k := k) ?_ ?_ ?_ ?_ ?_ fun h2 tk2 l2 hs2 hl2 S2 => ?_
 ·exact SI.at (N1.get (by k_mem))
 ·o_norm
 ·exact trivial
 ·exact ⟨_, rfl⟩
 ·exact fun hkl => hb (k :: lf) (List.nodup_cons.mpr ⟨hkl, SI.nodup⟩) (allC (.inl rfl) fun a ha => .inr ((hf a).mp ha))
 refine S2.hitI F1 N1 (nqC (Ne.symm e1) (nqC (Ne.symm e2) nqN)) hs2 fun o2 ho2 SI2 Fz2 Nz2 => ?_
 clear F1 N1
 o_steps
 have hoff : OffKeep [f] s.heap h2 := off_end Fz2 Hg (fun q hq => (hN q hq).1) (all3 (.inl (.head _)) (.inr (Nz2.get (by k_mem))) (.inr (Nz2.get (by k_mem))))
 have nf : ∀ {K : Type} [DecidableEq K] {dk : DKind prog w K} {b ld}, DictAt dk s.heap b ld -> b ∉ [f] := fun D => nin1 (Ne.symm (SI.neD hof D))
 refine hR _ _ hoff ⟨hoff _ _ (nin1 (Ne.symm e1)) V.ox, hoff _ _ (nin1 (Ne.symm e2)) V.od, V.x0, V.d0, V.p0, V.px, V.pd, (fun b pb => if q : b = f then ⟨o2, q ▸ ho2⟩ else x11 (V.pa b pb) fun o e => ⟨o, hoff _ _ (nin1 (q)) e⟩), ⟨keep_dI V.O.top fun o e => hoff _ _ (nf V.O.top) e, V.O.pt, V.O.val, fun a ha => ?_, V.O.sval, fun a ha lab hl => ?_, V.O.has, V.O.dinj, V.O.dne, V.O.sinj⟩, V.pf, ⟨l2, SI2.at (Nz2.get (by k_mem)), fun a => ?_⟩, V.fne⟩
 ·refine x02 (V.O.inn a ha) fun D r => ?_
  exact ⟨keep_dS D fun o e => hoff _ _ (nf D) e, r⟩
 ·obtain ⟨pp, xs, S, r⟩ := V.O.set a ha lab hl
  exact ⟨pp, xs, keep_int S fun o e => hoff _ _ (nin1 (V.fne a ha lab hl)) e, r⟩
 ·rw [mem_added hl2, hf]
theorem off_tkN {D : List Addr} {h h' : Heap} (k : OffKeep D h h') (hD : ∀ d ∈ D, ∀ o, h.get? d = some o -> o.cls ≠ .type "tuple") : TupKeep h h' := fun b o e c => k b o (fun q => hD b q o e c.1) e
theorem n_add_trans {src dest : Int} {label : Str} {ts tl td : Tok} (H : Base (hd.heap_1 w.params) p loose mean mg mb hz0) (hk : ∀ b o, hz0.get? b = some o -> s.heap.get? b = some o)
  (V : NfaMut prog w hz0 P s.heap x i Ar Fin dx t f t1 t2 t3 ti n l dOf lOf sOf) (hb : ∀ m : List Int, m.Nodup -> (∀ a ∈ m, a = dest ∨ Ar src label a) -> m.length ≤ 7)
  (hA : ∀ m : List Int, m.Nodup -> (∀ a ∈ m, ∃ lab b, Ar a lab b) -> m.length ≤ 7) (hL : ∀ m : List Str, m.Nodup -> (∀ lab ∈ m, ∃ a b, Ar a lab b) -> m.length ≤ 7)
  (hd1 : dp + 9 < recursionLimit) (hu : un + 40 < cLine)
  (hR : ∀ h' tk P' l' dOf' lOf' sOf', (∀ b o, ¬ P b -> s.heap.get? b = some o -> h'.get? b = some o) -> (∀ b, P' b -> P b ∨ s.heap.get? b = none) -> TupKeep s.heap h' -> NfaMut prog w hz0 P' h' x i (fun a lab b => Ar a lab b ∨ (a = src /\ lab = label /\ b = dest)) Fin dx t f t1 t2 t3 ti n l' dOf' lOf' sOf' -> R (.ok (.ret .none)) { s with heap := h', toks := tk }) :
  codeAny (model prog w) (A0 dp un fr gd) (.call (.ref 170) ⟨[.ref x, .int src ts, .str label tl, .int dest td], []⟩) R s := by
 have hsm := V.O.top.1
 refine V.O.top.exP fun ot hot clsT => ?_
 have tx : t ≠ x := fun q => V.px (q ▸ V.O.pt)
 have td' : t ≠ dx := fun q => V.pd (q ▸ V.O.pt)
 have lenl : l.length ≤ 7 := by
  exact lenMap (hA (l.map (·.1)) V.O.top.nodup fun a ha => (V.O.inn a ha).2.2)
 by_cases hsrc : src ∈ l.map (·.1)
 ·refine x03 (V.O.inn src hsrc) fun Dd pdd _ => ?_
  have dl := V.O.val
  refine keyVal hsrc fun v0 hv0 => ?_
  rw [V.O.val _ _ hv0] at hv0
  have dt : dOf src ≠ t := V.O.dne _ hsrc
  have dxx : dOf src ≠ x := fun q => V.px (q ▸ pdd)
  have ddx : dOf src ≠ dx := fun q => V.pd (q ▸ pdd)
  refine Dd.exP fun od hod clsD => ?_
  have lenli : (lOf src).length ≤ 7 := by
   exact lenMap (hL ((lOf src).map (·.1)) Dd.nodup fun lab ha => by
    obtain ⟨_, xs, _, hne, hm⟩ := V.O.set src hsrc lab ha
    refine x21 (List.exists_cons_of_ne_nil hne) fun b r q91 => ?_; subst q91
    exact ⟨src, b, (hm b).mp (.head _)⟩)
  by_cases hlab : label ∈ (lOf src).map (·.1)
  ·obtain ⟨psa, xs, Ssa, xne, hxs⟩ := V.O.set src hsrc label hlab
   refine keyVal hlab fun v1 hv2 => ?_
   rw [V.O.sval _ hsrc _ _ hv2] at hv2
   refine Ssa.exI fun oa hoa SIa => ?_
   have sax : sOf src label ≠ x := fun q => V.px (q ▸ psa)
   have sadx : sOf src label ≠ dx := fun q => V.pd (q ▸ psa)
   have sat : sOf src label ≠ t := SIa.neD hoa V.O.top
   have sad : sOf src label ≠ dOf src := SIa.neD hoa Dd
   have hN : ∀ q ∈ [(sOf src label, oa), (x, instObj 229 dx), (dx, nfaD w t f (.int i ti) t1 t2 t3 n)], s.heap.get? q.1 = some q.2 /\ hz0.get? q.1 = none := allC ⟨hoa, V.p0 _ psa⟩ V.at.led
   generalize hsa : sOf src label = sa at *
   generalize hdd : dOf src = d at *
   k_dflt (apply enter; assumption; assumption; assumption; k_is; k_is; exact Nat.lt_of_le_of_lt (Nat.le_add_right _ _) (by assumption); exact BindsTo.of_eq rfl; exact locs rfl; exact rfl; exact rfl; exact rfl; decide; k_whole; intro _ _ _ _ _ _ _ _ _; (try dsimp only); (try k_fold))
   rename_i g hz1 Hg Hs Hk F N X T
   have Dtg : DictAt (dInt prog w) g t l := keep_dI V.O.top fun o e => Hg _ _ e (nin3 (Ne.symm sat) tx td')
   have Ddg : DictAt (dStr prog w) g d (lOf src) := keep_dS Dd fun o e => Hg _ _ e (nin3 (Ne.symm sad) dxx ddx)
   o_steps
   (rename Fr _ _ _ _ => F1; rename News _ _ _ _ => N1; try rename Heap => hz1')
   refine meth_dict (Dtg.fr F1) PySem.F.slot_dict_setdefault PySem.F.type_dict_setdefault ?_
   o_steps
   (rename Fr _ _ _ _ => Fz2; rename News _ _ _ _ => Nz2; try rename Heap => hzz2)
   refine setdefault_old (l := l) (dk := dInt prog w) (k := src) (v := .ref d) ?_ ?_ ?_ hv0 fun tk2 => ?_
   ·exact Dtg.fr Fz2
   ·o_norm
   ·exact ⟨_, rfl⟩
   o_steps
   refine meth_dict (Ddg.fr Fz2) PySem.F.slot_dict_setdefault PySem.F.type_dict_setdefault ?_
   o_steps
   refine call_set0 (sk := skInt prog w) (lim := 7) (by decide) fun h3 s0 hk3 hr3 S3 => ?_
   have Fz3 := fr_stay Fz2 hk3
   have Nz3 := news_stay Nz2 hk3
   clear Fz2 Nz2
   o_steps
   refine setdefault_old (l := lOf src) (dk := dStr prog w) (k := label) (v := .ref sa) ?_ ?_ ?_ hv2 fun tk3 => ?_
   ·exact Ddg.fr Fz3
   ·o_norm
   ·exact ⟨_, rfl⟩
   o_steps
   refine meth_set (SIa.at (Nz3.get (by k_mem))) PySem.F.slot_set_add PySem.F.type_set_add ?_
   o_steps
   refine call_add (sk := skInt prog w) (lim := 7) (l := xs) (k := dest) ?_ ?_ ?_ ?_ ?_ fun h4 tk4 l2 hs4 hl2 S4 => ?_
   ·exact SIa.at (Nz3.get (by k_mem))
   ·o_norm
   ·exact trivial
   ·exact ⟨_, rfl⟩
   ·exact fun hkl => hb (dest :: xs) (List.nodup_cons.mpr ⟨hkl, SIa.nodup⟩) (allC (.inl rfl) fun a ha => .inr ((hxs a).mp ha))
   refine S4.hitI Fz3 (news_tl Nz3) (nqC (Ne.symm sax) (nqC (Ne.symm sadx) nqN)) hs4 fun o4 ho4 SI4 F4 N4 => ?_
   clear Fz3 Nz3
   o_steps
   have hoff : OffKeep [sa] s.heap h4 := off_end F4 Hg (fun q hq => (hN q hq).1) (all3 (.inl (.head _)) (.inr (N4.get (by k_mem))) (.inr (N4.get (by k_mem))))
   have q2 := kvOld hv0 fun v h => (V.O.val _ _ h).trans (congrArg Value.ref hdd)
   have q4 := kvOldS hsrc hv2 fun v h => (V.O.sval _ hsrc _ _ h).trans (congrArg Value.ref hsa)
   obtain ⟨l', dOf', lOf', sOf', V'⟩ := V.put (P' := P) (src := src) (label := label) (dest := dest) (d := d) (sa := sa) (l' := l) (li' := lOf src) (xs' := l2) (keep_dI V.O.top fun o e => hoff _ _ (nin1 (Ne.symm sat)) e) q2 (keep_dS Dd fun o e => hoff _ _ (nin1 (Ne.symm sad)) e) q4 (SI4.at ho4) (fun b => by rw [mem_added hl2, hxs])
    (fun _ q => q) pdd psa dt (fun _ => hdd.symm) (fun q => absurd hsrc q) (fun a ha lab hl e => V.O.sinj _ _ _ _ ha hsrc hl hlab (e.trans hsa.symm)) (fun b o _ _ n3 e => hoff _ _ (nin1 (n3)) e) (look hoa SIa.cls) (look hod clsD) V.p0 V.px V.pd (fun _ q => .inl q) (by rw [← hsa]; exact V.fne _ hsrc _ hlab)
   exact hR _ _ P l' dOf' lOf' sOf' (fun b o nb e => hoff _ _ (nin1 fun q => nb (q ▸ psa)) e) (fun _ q => .inl q) (off_tkN hoff (all1 (look hoa SIa.nt))) V'
  ·-- a new label at an old state
   have hN : ∀ q ∈ [(dOf src, od), (x, instObj 229 dx), (dx, nfaD w t f (.int i ti) t1 t2 t3 n)], s.heap.get? q.1 = some q.2 /\ hz0.get? q.1 = none := allC ⟨hod, V.p0 _ pdd⟩ V.at.led
   generalize hdd : dOf src = d at *
   k_dflt (apply enter; assumption; assumption; assumption; k_is; k_is; exact Nat.lt_of_le_of_lt (Nat.le_add_right _ _) (by assumption); exact BindsTo.of_eq rfl; exact locs rfl; exact rfl; exact rfl; exact rfl; decide; k_whole; intro _ _ _ _ _ _ _ _ _; (try dsimp only); (try k_fold))
   rename_i g hz1 Hg Hs Hk F N X T
   have Dtg : DictAt (dInt prog w) g t l := keep_dI V.O.top fun o e => Hg _ _ e (nin3 (Ne.symm dt) tx td')
   o_steps
   (rename Fr _ _ _ _ => F1; rename News _ _ _ _ => N1; try rename Heap => hz1')
   refine meth_dict (Dtg.fr F1) PySem.F.slot_dict_setdefault PySem.F.type_dict_setdefault ?_
   o_steps
   (rename Fr _ _ _ _ => Fz2; rename News _ _ _ _ => Nz2; try rename Heap => hzz2)
   refine setdefault_old (l := l) (dk := dInt prog w) (k := src) (v := .ref d) ?_ ?_ ?_ hv0 fun tk2 => ?_
   ·exact Dtg.fr Fz2
   ·o_norm
   ·exact ⟨_, rfl⟩
   have N2' := news_tl Nz2
   clear Nz2
   o_steps
   refine meth_dict (dk := dStr prog w) (ld := lOf src) (keep_dS Dd (look hod (N2'.get (by k_mem)))) PySem.F.slot_dict_setdefault PySem.F.type_dict_setdefault ?_
   o_steps
   refine call_set0 (sk := skInt prog w) (lim := 7) (by decide) fun h3 s0 hk3 hr3 S3 => S3.bornI Fz2 N2' hk3 hr3 fun o3 ho3 SI3 Fz3 Nz3 => ?_
   have s1 : s0 ≠ d := ne_get (N2'.get (by k_mem)) hr3
   have s2 : s0 ≠ x := ne_get (N2'.get (by k_mem)) hr3
   have s3 : s0 ≠ dx := ne_get (N2'.get (by k_mem)) hr3
   clear Fz2 N2'
   o_steps
   refine setdefault_new (l := lOf src) (dk := dStr prog w) (k := label) ?_ ?_ ?_ hlab ?_ fun h4 tk4 D4 hs4 => ?_
   ·exact keep_dS Dd (look hod (Nz3.get (by k_mem)))
   ·o_norm
   ·exact ⟨_, rfl⟩
   ·rw [sizeLine_eq]; lia
   refine D4.hit1 Fz3 Nz3 s1 (nqC (Ne.symm dxx) (nqC (Ne.symm ddx) nqN)) hs4 fun o4 ho4 F4 N4 => ?_
   clear Fz3 Nz3
   o_steps
   refine meth_set (SI3.at (N4.get (by k_mem))) PySem.F.slot_set_add PySem.F.type_set_add ?_
   o_steps
   refine call_add (sk := skInt prog w) (lim := 7) (l := []) (k := dest) ?_ ?_ ?_ ?_ ?_ fun h5 tk5 l2 hs5 hl2 S5 => ?_
   ·exact SI3.at (N4.get (by k_mem))
   ·o_norm
   ·exact trivial
   ·exact ⟨_, rfl⟩
   ·intro _; decide
   refine S5.hitI F4 N4 (nqC (Ne.symm s1) (nqC (Ne.symm s2) (nqC (Ne.symm s3) nqN))) hs5 fun o5 ho5 SI5 F5 N5 => ?_
   clear F4 N4
   o_steps
   have hoff : OffKeep [d] s.heap h5 := off_end F5 Hg (fun q hq => (hN q hq).1) (all3 (.inl (.head _)) (.inr (N5.get (by k_mem))) (.inr (N5.get (by k_mem))))
   have fs0 : s.heap.get? s0 = none := backNone Hg (N5.fresh (o := o5) (by k_mem)) (nin3 s1 s2 s3)
   have q2 := kvOld hv0 fun v h => (V.O.val _ _ h).trans (congrArg Value.ref hdd)
   have q4 := kvNewS (v0 := .ref s0) hsrc hlab
   have D5 : DictAt (dStr prog w) h5 d (lOf src ++ [(label, .ref s0)]) := keep_dS D4 fun o e => (hs5.2 _ (Ne.symm s1)).trans e
   have noArc : ∀ b, ¬ Ar src label b := fun b hb => hlab (V.O.has _ _ _ hb).2
   have h00 : hz0.get? s0 = none := none_sub (sub_hide Hg hk (fun q hq => (hN q hq).2)) (N5.fresh (o := o5) (by k_mem))
   have allo : ∀ b, P b -> True := fun _ _ => trivial
   obtain ⟨l', dOf', lOf', sOf', V'⟩ := V.put (P' := fun b => P b ∨ b = s0) (src := src) (label := label) (dest := dest) (d := d) (sa := s0) (l' := l) (li' := lOf src ++ [(label, .ref s0)]) (xs' := l2) (keep_dI V.O.top fun o e => hoff _ _ (nin1 (Ne.symm dt)) e) q2 D5 q4 (SI5.at ho5) (fun b => by rw [mem_added hl2]; exact ⟨fun q => q.elim .inl (fun q => nomatch q), fun q => q.elim .inl fun q => absurd q (noArc b)⟩)
    (fun _ q => .inl q) (.inl pdd) (.inr rfl) dt (fun _ => hdd.symm) (fun q => absurd hsrc q) (fun a ha lab hl e => let ⟨_, xs, S, _⟩ := V.O.set a ha lab hl; S.exP fun o' e' _ => by rw [e, fs0] at e'; cases e') (fun b o _ n2 _ e => hoff _ _ (nin1 (n2)) e) (fun o e => by rw [fs0] at e; cases e) (look hod clsD) (fun b q => q.elim (V.p0 b) fun q => q ▸ h00) (fun q => q.elim V.px fun q => s2 q.symm) (fun q => q.elim V.pd fun q => s3 q.symm) (fun _ q => q.imp id .inr) (fun q => let ⟨lf, Sf, _⟩ := V.S; Sf.exP fun o' e' _ => by rw [← q, fs0] at e'; cases e')
   exact hR _ _ _ l' dOf' lOf' sOf' (fun b o nb e => hoff _ _ (nin1 fun q => nb (q ▸ pdd)) e) (fun b q => q.elim .inl fun q => .inr (by rw [q]; exact fs0)) (off_tkN hoff (all1 (look hod (by rw [clsD]; decide)))) V'
 ·-- a new state
  have hN : ∀ q ∈ [(t, ot), (x, instObj 229 dx), (dx, nfaD w t f (.int i ti) t1 t2 t3 n)], s.heap.get? q.1 = some q.2 /\ hz0.get? q.1 = none := allC ⟨hot, V.p0 _ V.O.pt⟩ V.at.led
  k_dflt (apply enter; assumption; assumption; assumption; k_is; k_is; exact Nat.lt_of_le_of_lt (Nat.le_add_right _ _) (by assumption); exact BindsTo.of_eq rfl; exact locs rfl; exact rfl; exact rfl; exact rfl; decide; k_whole; intro _ _ _ _ _ _ _ _ _; (try dsimp only); (try k_fold))
  rename_i g hz1 Hg Hs Hk F N X T
  o_steps
  (rename Fr _ _ _ _ => F1; rename News _ _ _ _ => N1; try rename Heap => hz1')
  refine meth_dict (dk := dInt prog w) (ld := l) (keep_dI V.O.top (look hot (N1.get (by k_mem)))) PySem.F.slot_dict_setdefault PySem.F.type_dict_setdefault ?_
  o_steps
  rename_i d0 hA o0 FX NX lo0 hs0 fs0 hi0 fi0 l10
  (rename Fr _ _ _ _ => Fz2; rename News _ _ _ _ => Nz2; try rename Heap => hzz2)
  have hgd : g.get? d0 = none := Nz2.fresh (o := o0) (by k_mem)
  have b1 : d0 ≠ t := Nat.ne_of_gt l10.1
  have b2 : d0 ≠ x := Nat.ne_of_gt l10.2.1
  have b3 : d0 ≠ dx := Nat.ne_of_gt l10.2.2
  refine setdefault_new (l := l) (dk := dInt prog w) (k := src) ?_ ?_ ?_ hsrc ?_ fun h3 tk3 D3 hs3 => ?_
  ·exact keep_dI V.O.top (look hot (Nz2.get (by k_mem)))
  ·o_norm
  ·exact ⟨_, rfl⟩
  ·rw [sizeLine_eq]; lia
  refine D3.hit1 Fz2 Nz2 b1 (nqC (Ne.symm tx) (nqC (Ne.symm td') nqN)) hs3 fun o3 ho3 Fz3 Nz3 => ?_
  clear Fz2 Nz2
  have Dd0 : DictAt (dStr prog w) h3 d0 [] := dictAt_new (Nz3.get (o := o0) (by k_mem)) hi0 lo0
  clear hs0 hi0 fs0 fi0
  o_steps
  refine meth_dict Dd0 PySem.F.slot_dict_setdefault PySem.F.type_dict_setdefault ?_
  o_steps
  refine call_set0 (sk := skInt prog w) (lim := 7) (by decide) fun h4 s0 hk4 hr4 S4 => S4.bornI Fz3 Nz3 hk4 hr4 fun o4 ho4 SI4 F4 N4 => ?_
  have s1 : s0 ≠ d0 := ne_get (Nz3.get (by k_mem)) hr4
  have s2 : s0 ≠ x := ne_get (Nz3.get (by k_mem)) hr4
  have s3 : s0 ≠ dx := ne_get (Nz3.get (by k_mem)) hr4
  have s4 : s0 ≠ t := ne_get (Nz3.get (by k_mem)) hr4
  clear Fz3 Nz3
  o_steps
  refine setdefault_new (l := []) (dk := dStr prog w) (k := label) ?_ ?_ ?_ List.not_mem_nil ?_ fun h5 tk5 D5 hs5 => ?_
  ·exact Dd0.stay hk4
  ·o_norm
  ·exact ⟨_, rfl⟩
  ·exact Nat.zero_le _
  refine D5.hit1 F4 N4 s1 (nqC (Ne.symm b1) (nqC (Ne.symm b2) (nqC (Ne.symm b3) nqN))) hs5 fun o5 ho5 F5 N5 => ?_
  clear F4 N4
  o_steps
  refine meth_set (SI4.at (N5.get (by k_mem))) PySem.F.slot_set_add PySem.F.type_set_add ?_
  o_steps
  refine call_add (sk := skInt prog w) (lim := 7) (l := []) (k := dest) ?_ ?_ ?_ ?_ ?_ fun h6 tk6 l2 hs6 hl2 S6 => ?_
  ·exact SI4.at (N5.get (by k_mem))
  ·o_norm
  ·exact trivial
  ·exact ⟨_, rfl⟩
  ·intro _; decide
  refine S6.hitI F5 N5 (nqC (Ne.symm s1) (nqC (Ne.symm s4) (nqC (Ne.symm s2) (nqC (Ne.symm s3) nqN)))) hs6 fun o6 ho6 SI6 F6 N6 => ?_
  clear F5 N5
  o_steps
  have hoff : OffKeep [t] s.heap h6 := off_end F6 Hg (fun q hq => (hN q hq).1) (all3 (.inl (.head _)) (.inr (N6.get (by k_mem))) (.inr (N6.get (by k_mem))))
  have fs : s.heap.get? s0 = none := backNone Hg (N6.fresh (o := o6) (by k_mem)) (nin3 s4 s2 s3)
  have fd : s.heap.get? d0 = none := backNone Hg hgd (nin3 b1 b2 b3)
  have q2 := kvNew (v0 := .ref d0) hsrc
  have q4 := kvOne (k0 := label) (v0 := .ref s0) (A := fun lab u => (lab, u) ∈ lOf src) hsrc
  have D3' : DictAt (dInt prog w) h6 t (l ++ [(src, .ref d0)]) := keep_dI D3 fun o e => (hs6.2 _ (Ne.symm s4)).trans ((hs5.2 _ (Ne.symm b1)).trans (hk4 _ _ e))
  have D6 : DictAt (dStr prog w) h6 d0 ([] ++ [(label, .ref s0)]) := keep_dS D5 fun o e => (hs6.2 _ (Ne.symm s1)).trans e
  have sub0 := sub_hide Hg hk (fun q hq => (hN q hq).2)
  have hs00 : hz0.get? s0 = none := none_sub sub0 (N6.fresh (o := o6) (by k_mem))
  have hd00 : hz0.get? d0 = none := none_sub sub0 hgd
  obtain ⟨l', dOf', lOf', sOf', V'⟩ := V.put (P' := fun b => P b ∨ b = d0 ∨ b = s0) (src := src) (label := label) (dest := dest) (d := d0) (sa := s0) (l' := l ++ [(src, .ref d0)]) (li' := [] ++ [(label, .ref s0)]) (xs' := l2) D3' q2 D6 q4 (SI6.at ho6) (fun b => by rw [mem_added hl2]; exact ⟨fun q => q.elim .inl (fun q => nomatch q), fun q => q.elim .inl fun q => absurd (V.O.has _ _ _ q).1 hsrc⟩)
   (fun _ q => .inl q) (.inr (.inl rfl)) (.inr (.inr rfl)) b1 (fun q => absurd q hsrc) (fun _ a ha e => (V.O.inn a ha).1.exP fun o e' _ => by rw [e, fd] at e'; cases e') (fun a ha lab hl e => let ⟨_, xs, S, _⟩ := V.O.set a ha lab hl; S.exP fun o' e' _ => by rw [e, fs] at e'; cases e') (fun b o n1 _ _ e => hoff _ _ (nin1 (n1)) e) (fun o e => by rw [fs] at e; cases e) (fun o e => by rw [fd] at e; cases e) (fun b q => q.elim (V.p0 b) fun q => q.elim (fun q => q ▸ hd00) fun q => q ▸ hs00) (fun q => q.elim V.px fun q => q.elim (fun q => b2 q.symm) fun q => s2 q.symm) (fun q => q.elim V.pd fun q => q.elim (fun q => b3 q.symm) fun q => s3 q.symm) (fun _ q => q) (fun q => let ⟨lf, Sf, _⟩ := V.S; Sf.exP fun o' e' _ => by rw [← q, fs] at e'; cases e')
  exact hR _ _ _ l' dOf' lOf' sOf' (fun b o nb e => hoff _ _ (nin1 fun q => nb (q ▸ V.O.pt)) e) (fun b q => q.elim .inl fun q => .inr (q.elim (fun q => by rw [q]; exact fd) fun q => by rw [q]; exact fs)) (off_tkN hoff (all1 (look hot (by rw [clsT]; decide)))) V'
end
-- MkObj
section
open PySem PySem.W PyProof.Rows PySem.Calls
theorem off_MkObj : True := by
 w_top off
 trivial
theorem under_mk (dp un : Nat) (fr : List Env) (gd : Option (List Code)) (C : Addr) (v : Value) : (A0 dp un fr gd).under (.builtin "type.__call__" ⟨[.ref C, v], []⟩) = A0 (dp + 1) (un + 1) fr gd := rfl
variable {prog : Program} {w : World} {p : Program} {loose : List Str} {mean : ExcName -> Option Value} {mg mb : Str -> Option Value} {hz0 g : Heap} {L : Addr} {m : Str -> Option Value} {news : List (Addr × Obj)}
variable {s : Shared} {dp un : Nat} {fr : List Env} {gd : Option (List Code)} {Q : Value -> Shared -> Prop}
variable {K : Type} [DecidableEq K] {kk : KK prog w K}
theorem fresh2 (h : Heap) (o o' : Obj) : (∀ b q, h.get? b = some q -> ((h.push o).push o').get? b = some q) /\ h.get? h.objs.size = none /\ h.get? (h.push o).objs.size = none :=
 ⟨fun b q e => Heap.get?_push_of_some _ (Heap.get?_push_of_some _ e), fresh_size h, by
  cases e : h.get? (h.push o).objs.size with
  | none => rfl
  | some q =>
   have := Heap.lt_size e
   rw [Heap.size_push] at this
   exact absurd this (Nat.not_lt.mpr (Nat.le_succ _))⟩
theorem mk_dfa {k0 : K} {v0 : Value} {gk : K -> Prop} {gl : Str -> Prop} (H : Base (hd.heap_1 w.params) p loose mean mg mb hz0) (hk : ∀ b o, hz0.get? b = some o -> s.heap.get? b = some o)
  (hv : (∃ b, v0 = .ref b) ∨ ∃ n t, v0 = .int n t) (hkv : kk.dk.is s.heap k0 v0)
  (hd1 : dp + 19 < recursionLimit) (hu : un + 80 < cLine)
  (hQ : ∀ h' tk x Y P, (∀ b o, s.heap.get? b = some o -> h'.get? b = some o) -> (∀ b, P b ∨ b = x ∨ b = Y.dx -> s.heap.get? b = none) -> Y.v0 = v0 -> DfaM kk hz0 P h' x Y ⟨k0, fun _ _ => none, fun _ => none, fun _ => False, gk, gl⟩ -> Q (.ref x) { s with heap := h', toks := tk }) :
  wpAny (model prog w) (A0 dp un fr gd) (call (.ref 327) [v0]) Q noE s := by
 have X := H.X.keeps hk
 have hm : makesIn (hd.heap_1 w.params) 327 = true := by k_dflt k_is
 have hi : findIn (hd.heap_1 w.params) (.ref 327) "__init__" = some (some (.ref 245)) := by k_dflt k_is
 have hf : isFn (hd.heap_1 w.params) (.ref 245) = true := by k_dflt k_is
 obtain ⟨hh, gg, dd, tt, os⟩ := s
 refine wpAny_call (make_core (makes_of X hm) (looks_findIn X hi) (fun self => bind_fn X self (beq_iff_eq.mp hf)) (.inl rfl) ?_)
 rw [under_mk]
 refine x03 (fresh2 hh emptyDict (instObj 327 hh.objs.size)) fun kp n1 n2 => ?_
 have hx : ((hh.push emptyDict).push (instObj 327 hh.objs.size)).get? (hh.objs.size + 1) = some (instObj 327 hh.objs.size) := by
  have : ((hh.push emptyDict).push (instObj 327 hh.objs.size)).get? (hh.push emptyDict).objs.size = some (instObj 327 hh.objs.size) := Heap.get?_push_size _ rfl
  rwa [Heap.size_push] at this
 have hdx : ((hh.push emptyDict).push (instObj 327 hh.objs.size)).get? hh.objs.size = some emptyDict := Heap.get?_push_of_some _ (Heap.get?_push_size _ rfl)
 rw [Heap.size_push] at n2
 refine d_init (k0 := k0) (gk := gk) (gl := gl) (dx := hh.objs.size) (kk := kk) H (fun b o e => kp _ _ (hk b o e)) ?_ (Nat.lt_succ_self _) hv (kk.dk.keep hkv fun b o e _ => kp b o e) ?_ ?_ fun h' tk Y P hoff hP e1 e2 V => ?_
 ·intro q hq
  simp only [List.mem_cons, List.not_mem_nil, or_false] at hq
  rcases hq with rfl | rfl
  ·exact ⟨hx, none_sub hk n2⟩
  ·exact ⟨hdx, none_sub hk n1⟩
 ·lia
 ·lia
 refine ⟨rfl, ?_⟩
 refine hQ h' tk _ Y P (fun b o e => hoff _ _ (by simp; rintro rfl; rw [n1] at e; cases e) (kp _ _ e)) ?_ e2 V
 rintro b (q | rfl | rfl)
 ·exact none_sub kp (hP b q)
 ·exact n2
 ·rw [e1]; exact n1
theorem mk_nfa {i : Int} {ti : Tok} (H : Base (hd.heap_1 w.params) p loose mean mg mb hz0) (hk : ∀ b o, hz0.get? b = some o -> s.heap.get? b = some o)
  (hd1 : dp + 19 < recursionLimit) (hu : un + 80 < cLine)
  (hQ : ∀ h' tk x dx t f t1 t2 t3 P l dOf lOf sOf, (∀ b o, s.heap.get? b = some o -> h'.get? b = some o) -> (∀ b, P b ∨ b = x ∨ b = dx -> s.heap.get? b = none) -> NfaMut prog w hz0 P h' x i (fun _ _ _ => False) (fun _ => False) dx t f t1 t2 t3 ti 3 l dOf lOf sOf -> Q (.ref x) { s with heap := h', toks := tk }) :
  wpAny (model prog w) (A0 dp un fr gd) (call (.ref 229) [.int i ti]) Q noE s := by
 have X := H.X.keeps hk
 have hm : makesIn (hd.heap_1 w.params) 229 = true := by k_dflt k_is
 have hi : findIn (hd.heap_1 w.params) (.ref 229) "__init__" = some (some (.ref 156)) := by k_dflt k_is
 have hf : isFn (hd.heap_1 w.params) (.ref 156) = true := by k_dflt k_is
 obtain ⟨hh, gg, dd, tt, os⟩ := s
 refine wpAny_call (make_core (makes_of X hm) (looks_findIn X hi) (fun self => bind_fn X self (beq_iff_eq.mp hf)) (.inl rfl) ?_)
 rw [under_mk]
 refine x03 (fresh2 hh emptyDict (instObj 229 hh.objs.size)) fun kp n1 n2 => ?_
 have hx : ((hh.push emptyDict).push (instObj 229 hh.objs.size)).get? (hh.objs.size + 1) = some (instObj 229 hh.objs.size) := by
  have : ((hh.push emptyDict).push (instObj 229 hh.objs.size)).get? (hh.push emptyDict).objs.size = some (instObj 229 hh.objs.size) := Heap.get?_push_size _ rfl
  rwa [Heap.size_push] at this
 have hdx : ((hh.push emptyDict).push (instObj 229 hh.objs.size)).get? hh.objs.size = some emptyDict := Heap.get?_push_of_some _ (Heap.get?_push_size _ rfl)
 rw [Heap.size_push] at n2
 have dne : hh.objs.size ≠ hh.objs.size + 1 := Nat.ne_of_lt (Nat.lt_succ_self _)
 refine n_init (dx := hh.objs.size) H (fun b o e => kp _ _ (hk b o e)) ?_ (Nat.lt_succ_self _) ?_ ?_ fun h' tk t f t1 t2 t3 hoff hd' ht hf' Dt Sf => ?_
 ·intro q hq
  simp only [List.mem_cons, List.not_mem_nil, or_false] at hq
  rcases hq with rfl | rfl
  ·exact ⟨hx, none_sub hk n2⟩
  ·exact ⟨hdx, none_sub hk n1⟩
 ·lia
 ·lia
 refine ⟨rfl, ?_⟩
 have kt : ∀ b o, ((hh.push emptyDict).push (instObj 229 hh.objs.size)).get? b = some o -> b ≠ hh.objs.size -> h'.get? b = some o := fun b o e n => hoff b o (by simpa using n) e
 have tx : t ≠ hh.objs.size + 1 := fun q => by rw [q, hx] at ht; cases ht
 have fx : f ≠ hh.objs.size + 1 := fun q => by rw [q, hx] at hf'; cases hf'
 have td : t ≠ hh.objs.size := fun q => by rw [q, hdx] at ht; cases ht
 have fd : f ≠ hh.objs.size := fun q => by rw [q, hdx] at hf'; cases hf'
 refine hQ h' tk _ hh.objs.size t f t1 t2 t3 (fun b => b = t ∨ b = f) [] (fun _ => 0) (fun _ => []) (fun _ _ => 0) (fun b o e => kt b o (kp _ _ e) (fun q => by rw [q, n1] at e; cases e)) ?_ ⟨kt _ _ hx (Ne.symm dne), hd', none_sub hk n2, none_sub hk n1, ?_, ?_, ?_, ?_, ⟨Dt, .inl rfl, (fun a v h => nomatch h), (fun a h => nomatch h), (fun a h => nomatch h), (fun a h => nomatch h), (fun a lab b h => h.elim), (fun a a' h => nomatch h), (fun a h => nomatch h), (fun a a' lab lab' h => nomatch h)⟩, .inr rfl, ⟨[], Sf, fun a => by simp⟩, (fun a h => nomatch h)⟩
 ·rintro b ((rfl | rfl) | rfl | rfl)
  ·exact none_sub kp ht
  ·exact none_sub kp hf'
  ·exact n2
  ·exact n1
 ·rintro b (rfl | rfl)
  ·exact none_sub hk (none_sub kp ht)
  ·exact none_sub hk (none_sub kp hf')
 ·rintro (q | q)
  ·exact tx q.symm
  ·exact fx q.symm
 ·rintro (q | q)
  ·exact td q.symm
  ·exact fd q.symm
 ·rintro b (rfl | rfl)
  ·obtain ⟨_, es, ep, e, _⟩ := Dt
   exact ⟨_, e⟩
  ·refine x12 Sf.cls fun o e _ => ?_
   exact ⟨_, e⟩
end
-- TdSt
section
open PySem PySem.W PyProof.Rows PySem.Calls
theorem L_not_tup {g h : Heap} {L : Addr} {m : Str -> Option Value} {o : Obj} (F : Fr g L h m) (e : h.get? L = some o) : ¬ TupO o := by
 refine x33 F.ns fun oL es ep hL hd r => ?_
 rw [hL] at e; cases e
 rintro ⟨_, i, n, q⟩
 rw [hd] at q; cases q
theorem nt_cls {o : Obj} (h : o.cls ≠ .type "tuple") : ¬ TupO o := fun t => h t.1
structure Led (g : Heap) (L : Addr) (fr : List (Addr × Obj)) (h : Heap) (m : Str -> Option Value) : Prop where
 F : Fr g L h m
 N : News g L h fr
 nt : ∀ q ∈ fr, ¬ TupO q.2
section
variable {g h h' : Heap} {L : Addr} {fr fr' : List (Addr × Obj)} {m m' : Str -> Option Value}
theorem Led.all (S : Led g L fr h m) : News g L h (fr ++ allOf g L (fr.map (·.1)) h) := news_all S.N
theorem Led.kp (S : Led g L fr h m) (F' : Fr g L h' m') {nl : List (Addr × Obj)} (N' : News g L h' nl) (hall : ∀ q ∈ allOf g L (fr.map (·.1)) h, q ∈ nl) :
  ∀ b o, b ≠ L -> b ∉ fr.map (·.1) -> h.get? b = some o -> h'.get? b = some o := fun b o hL hb e => by
 cases q : g.get? b with
 | some o' =>
  have := S.F.keep _ _ q
  rw [e] at this; cases this
  exact F'.keep _ _ q
 | none => exact (N' (b, o) (hall _ (mem_allOf.mpr ⟨e, q, hL, hb⟩))).1
theorem Led.tk (S : Led g L fr h m) (k : ∀ b o, b ≠ L -> b ∉ fr.map (·.1) -> h.get? b = some o -> h'.get? b = some o) : TupKeep h h' := fun b o e c => by
 refine k b o (fun q => ?_) (fun q => ?_) e
 ·subst q; exact L_not_tup S.F e c
 ·refine x12 (List.mem_map.mp q) fun p hp q91 => ?_; subst q91
  rw [(S.N p hp).1] at e; cases e
  exact S.nt p hp c
theorem Led.stay (S : Led g L fr h m) (k : ∀ b o, h.get? b = some o -> h'.get? b = some o) : Led g L fr h' m := ⟨fr_stay S.F k, news_stay S.N k, S.nt⟩
theorem Led.off {D : Addr -> Prop} (S : Led g L fr h m) (k : ∀ b o, ¬ D b -> h.get? b = some o -> h'.get? b = some o) (hL : ¬ D L) (hfr : ∀ q ∈ fr, ¬ D q.1) (hg : ∀ b, D b -> g.get? b = none) : Led g L fr h' m := by
 refine ⟨?_, fun q hq => ⟨k _ _ (hfr q hq) (S.N q hq).1, (S.N q hq).2⟩, S.nt⟩
 refine x32 S.F.ns fun oL es ep eL r => ?_
 exact ⟨⟨oL, es, ep, k _ _ hL eL, r⟩, fun b o e => k b o (fun q => by rw [hg b q] at e; cases e) (S.F.keep b o e), S.F.above⟩
theorem Led.L_ex (S : Led g L fr h m) : ∃ o, h.get? L = some o := x32 (S.F.ns) fun oL _ _ eL _ => ⟨oL, eL⟩
noncomputable def Led.Aside (L : Addr) (fr : List (Addr × Obj)) (b : Addr) : Prop := b ≠ L /\ b ∉ fr.map (·.1)
theorem Led.fresh_aside (S : Led g L fr h m) {b : Addr} (e : h.get? b = none) : Led.Aside L fr b := by
 refine ⟨fun q => ?_, fun q => ?_⟩
 ·refine x11 S.L_ex fun o e' => ?_
  rw [q, e'] at e; cases e
 ·refine x12 (List.mem_map.mp q) fun p hp q92 => ?_; subst q92
  rw [(S.N p hp).1] at e; cases e
end
structure TdSt (prog : Program) (w : World) (Ar : Int -> Str -> Int -> Prop) (hz0 g sh : Heap) (L sd xd : Addr) (fr : List (Addr × Obj)) (arr : List Value) (Fl Se : List (List Int)) (Y : DLay (List Int)) (M : DMod (List Int)) (P : Addr -> Prop) (h : Heap) (m : Str -> Option Value) : Prop extends Led g L fr h m where
 ta : TupsAre h arr Fl
 se : SetAt (skTup prog w dom4 hdom4) 18 h sd Se
 d : DfaM (kkTup prog w dom4 hdom4) hz0 P h xd Y M
 sdA : Led.Aside L fr sd
 hP : ∀ b, P b ∨ b = xd ∨ b = Y.dx -> b ≠ sd /\ Led.Aside L fr b /\ sh.get? b = none
 gk : ∀ k, M.gk k ↔ dom4 k /\ k ≠ []
 gl : ∀ lab, M.gl lab ↔ ∃ a b, Ar a lab b
section
variable {prog : Program} {w : World} {Ar : Int -> Str -> Int -> Prop} {hz0 g sh : Heap} {L sd xd : Addr} {fr fr' : List (Addr × Obj)} {arr arr' : List Value} {Fl Fl' Se Se' : List (List Int)} {Y Y' : DLay (List Int)} {M M' : DMod (List Int)} {P P' : Addr -> Prop} {h h' : Heap} {m m' : Str -> Option Value}
theorem TdSt.step (S : TdSt prog w Ar hz0 g sh L sd xd fr arr Fl Se Y M P h m) (F' : Fr g L h' m') {nl : List (Addr × Obj)} (N' : News g L h' nl) (hall : ∀ q ∈ allOf g L (fr.map (·.1)) h, q ∈ nl) (hfr : ∀ q ∈ fr', q ∈ nl)
  (hnt : ∀ q ∈ fr', ¬ TupO q.2) (hDD : ∀ q ∈ fr', q.1 ∈ fr.map (·.1) ∨ h.get? q.1 = none) : TdSt prog w Ar hz0 g sh L sd xd fr' arr Fl Se Y M P h' m' := by
 have k := S.kp F' N' hall
 have tk := S.tk k
 have ox : ∀ b, P b ∨ b = xd ∨ b = Y.dx -> ∃ o, h.get? b = some o := by
  rintro b (q | rfl | rfl)
  ·exact S.d.pa b q
  ·exact ⟨_, S.d.ox⟩
  ·exact ⟨_, S.d.od⟩
 have sdo : ∃ o, h.get? sd = some o := x12 (S.se.cls) fun o e _ => ⟨o, e⟩
 have out : ∀ b, (∃ o, h.get? b = some o) -> Led.Aside L fr b -> Led.Aside L fr' b := fun b q83 hb => x11 q83 fun o e => ⟨hb.1, fun hb' => by
  refine x12 (List.mem_map.mp hb') fun p hp q93 => ?_; subst q93
  refine Or.elim (hDD p hp) (fun q => ?_) fun q => ?_
  ·exact hb.2 q
  ·rw [e] at q; cases q⟩
 exact ⟨⟨F', fun q hq => N' q (hfr q hq), hnt⟩, S.ta.keep tk, S.se.keep (fun o e => k _ o S.sdA.1 S.sdA.2 e) tk, S.d.move (fun b o hb e => k b o (S.hP b hb).2.1.1 (S.hP b hb).2.1.2 e) tk, out _ sdo S.sdA, fun b hb => ⟨(S.hP b hb).1, out _ (ox b hb) (S.hP b hb).2.1, (S.hP b hb).2.2⟩, S.gk, S.gl⟩
theorem TdSt.same (S : TdSt prog w Ar hz0 g sh L sd xd fr arr Fl Se Y M P h m) (F' : Fr g L h' m') {nl : List (Addr × Obj)} (N' : News g L h' nl) (hsub : ∀ q ∈ fr ++ allOf g L (fr.map (·.1)) h, q ∈ nl) : TdSt prog w Ar hz0 g sh L sd xd fr arr Fl Se Y M P h' m' :=
 S.step F' N' (fun q hq => hsub q (List.mem_append_right _ hq)) (fun q hq => hsub q (List.mem_append_left _ hq)) S.nt fun q hq => .inl (List.mem_map_of_mem hq)
theorem TdSt.stay' (S : TdSt prog w Ar hz0 g sh L sd xd fr arr Fl Se Y M P h m) (k : ∀ b o, h.get? b = some o -> h'.get? b = some o) : TdSt prog w Ar hz0 g sh L sd xd fr arr Fl Se Y M P h' m where
 toLed := S.toLed.stay k
 ta := S.ta.keep fun b o e _ => k b o e
 se := S.se.stay k
 d := S.d.move (fun b o _ e => k b o e) fun b o e _ => k b o e
 sdA := S.sdA
 hP := S.hP
 gk := S.gk
 gl := S.gl
theorem TdSt.seen (S : TdSt prog w Ar hz0 g sh L sd xd fr arr Fl Se Y M P h m) (hs : Heap.SameBut sd h h') (S' : SetAt (skTup prog w dom4 hdom4) 18 h' sd Se') (hg : g.get? sd = none) : TdSt prog w Ar hz0 g sh L sd xd fr arr Fl Se' Y M P h' m := by
 refine hidG fun GG hGG => ?_
 refine x13 S.se.cls fun os hos cs _ => ?_
 refine hGG ?_
 have k : ∀ b o, ¬ b = sd -> h.get? b = some o -> h'.get? b = some o := fun b o hb e => (hs.2 b hb).trans e
 have tk : TupKeep h h' := TupKeep.of_same hs hos (by refine (cs).symm ▸ ?_; decide)
 exact ⟨S.toLed.off (D := fun b => b = sd) k (fun q => S.sdA.1 q.symm) (fun q hq e => S.sdA.2 (e ▸ List.mem_map_of_mem hq)) (fun b e => e ▸ hg), S.ta.keep tk, S', S.d.move (fun b o hb e => k b o (S.hP b hb).1 e) tk, S.sdA, S.hP, S.gk, S.gl⟩
theorem TdSt.dfa (S : TdSt prog w Ar hz0 g sh L sd xd fr arr Fl Se Y M P h m) (k : ∀ b o, ¬ P b -> h.get? b = some o -> h'.get? b = some o) (tk : TupKeep h h') (hP' : ∀ b, P' b -> P b ∨ h.get? b = none) (d' : DfaM (kkTup prog w dom4 hdom4) hz0 P' h' xd Y' M')
  (hg : ∀ b, P b -> g.get? b = none) (hsh : ∀ b o, sh.get? b = some o -> h.get? b = some o) (ek : M'.gk = M.gk) (el : M'.gl = M.gl) : TdSt prog w Ar hz0 g sh L sd xd fr arr Fl Se Y' M' P' h' m := by
 have nsd : ¬ P sd := fun q => (S.hP sd (.inl q)).1 rfl
 have nL : ¬ P L := fun q => (S.hP L (.inl q)).2.1.1 rfl
 have nD : ∀ q ∈ fr, ¬ P q.1 := fun q hq e => (S.hP _ (.inl e)).2.1.2 (List.mem_map_of_mem hq)
 have ey : Y'.dx = Y.dx := by
  have e1 := k _ _ S.d.px S.d.ox
  rw [d'.ox] at e1
  injection e1 with e1
  injection e1 with _ e1
  injection e1 with e1
 refine x13 S.se.cls fun os hos cs _ => ?_
 refine ⟨S.toLed.off k nL nD hg, S.ta.keep tk, S.se.keep (fun o e => k _ o nsd e) tk, d', S.sdA, ?_, by refine (ek).symm ▸ ?_; exact S.gk, by refine (el).symm ▸ ?_; exact S.gl⟩
 rintro b hb
 rw [ey] at hb
 refine Or.elim (hb) (fun q => ?_) fun q => ?_
 ·refine Or.elim (hP' b q) (fun q => ?_) fun q => ?_
  ·exact S.hP b (.inl q)
  ·exact ⟨fun e => (by rw [e, hos] at q; cases q), S.toLed.fresh_aside q, none_sub hsh q⟩
 ·exact S.hP b (.inr q)
theorem TdSt.allD (S : TdSt prog w Ar hz0 g sh L sd xd fr arr Fl Se Y M P h m) (hg : ∀ b, sh.get? b = none -> g.get? b = none) : News g L h ((xd, instObj 327 Y.dx) :: (Y.dx, Y.obj w) :: (fr ++ allOf g L (fr.map (·.1)) h)) :=
 news_cons (news_cons S.all S.d.od (S.hP _ (.inr (.inr rfl))).2.1.1 (hg _ (S.hP _ (.inr (.inr rfl))).2.2)) S.d.ox (S.hP _ (.inr (.inl rfl))).2.1.1 (hg _ (S.hP _ (.inr (.inl rfl))).2.2)
theorem TdSt.fin_dom (S : TdSt prog w Ar hz0 g sh L sd xd fr arr Fl Se Y M P h m) {a : List Int} (ha : M.fin a) : dom4 a := by
 refine x12 S.d.S fun lf Sf hf => ?_
 obtain ⟨_, _, _, _, _, _, _, hok, _⟩ := Sf
 exact hok a ((hf a).mpr ha)
theorem Led.endN {own : List (Addr × Obj)} (S : Led g L (fr ++ own) h m) : News g L h ((fr ++ allOf g L ((fr ++ own).map (·.1)) h) ++ own) := fun p hp =>
 S.all p ((List.mem_append.mp hp).elim (fun h => (List.mem_append.mp h).elim (fun h => List.mem_append_left _ (List.mem_append_left _ h)) (List.mem_append_right _)) fun h => List.mem_append_left _ (List.mem_append_right _ h))
theorem Led.endA {own : List (Addr × Obj)} {fp : List Addr} (h1 : ∀ a ∈ fp, a ∈ own.map (·.1)) (h2 : ∀ q ∈ fr, q.1 ∉ fp) : ∀ p ∈ fr ++ allOf g L ((fr ++ own).map (·.1)) h, p.1 ∉ fp := fun p hp => (List.mem_append.mp hp).elim (h2 p) fun hp hf => (mem_allOf.mp hp).2.2.2 (by rw [List.map_append]; exact List.mem_append_right _ (h1 _ hf))
theorem Led.endA2 {own : List (Addr × Obj)} {I d : Addr} (S : Led g L (fr ++ own) h m) (hI : I ∈ own.map (·.1)) (h2 : ∀ q ∈ fr, q.1 ≠ I) (hd : ∃ o, g.get? d = some o) : ∀ p ∈ fr ++ allOf g L ((fr ++ own).map (·.1)) h, p.1 ∉ [I, d] := fun p hp hf => by
 simp only [List.mem_cons, List.not_mem_nil, or_false] at hf
 refine Or.elim (hf) (fun q => ?_) fun q => ?_
 ·refine Or.elim (List.mem_append.mp hp) (fun hp => ?_) fun hp => ?_
  ·exact h2 p hp q
  ·exact (mem_allOf.mp hp).2.2.2 (by rw [List.map_append]; exact List.mem_append_right _ (q ▸ hI))
 ·refine x11 hd fun o e => ?_
  have : g.get? p.1 = none := by
   refine Or.elim (List.mem_append.mp hp) (fun hp => ?_) fun hp => ?_
   ·exact (S.N p (List.mem_append_left _ hp)).2.2
   ·exact (mem_allOf.mp hp).2.1
  rw [q, e] at this; cases this
theorem TdSt.list {l1 : Addr} {c c' : Nat} {tl : List (Addr × Obj)} (S : TdSt prog w Ar hz0 g sh L sd xd ((l1, listO arr.toArray c) :: tl) arr Fl Se Y M P h m) (hs : Heap.SameBut l1 h h') (ho : h'.get? l1 = some (listO arr'.toArray c')) (ta : TupsAre h arr' Fl') (hl : l1 ∉ tl.map (·.1)) :
  TdSt prog w Ar hz0 g sh L sd xd ((l1, listO arr'.toArray c') :: tl) arr' Fl' Se Y M P h' m := by
 have k : ∀ b o, ¬ b = l1 -> h.get? b = some o -> h'.get? b = some o := fun b o hb e => (hs.2 b hb).trans e
 have hN := S.N (l1, listO arr.toArray c) (by simp)
 have tk : TupKeep h h' := TupKeep.of_same hs hN.1 (by refine (?_ : (Value.type "list") ≠ _); decide)
 have as : ∀ {b}, Led.Aside L ((l1, listO arr.toArray c) :: tl) b -> b ≠ l1 /\ Led.Aside L ((l1, listO arr'.toArray c') :: tl) b := fun {b} h => ⟨fun q => h.2 (by simp [q]), h.1, by simpa using h.2⟩
 refine ⟨⟨?_, fun q hq => ?_, fun q hq => ?_⟩, ta.keep tk, S.se.keep (fun o e => k _ o (as S.sdA).1 e) tk, S.d.move (fun b o hb e => k b o (as (S.hP b hb).2.1).1 e) tk, (as S.sdA).2, fun b hb => ⟨(S.hP b hb).1, (as (S.hP b hb).2.1).2, (S.hP b hb).2.2⟩, S.gk, S.gl⟩
 ·refine x32 S.F.ns fun oL es ep eL r => ?_
  exact ⟨⟨oL, es, ep, k _ _ (fun q => hN.2.1 q.symm) eL, r⟩, fun b o e => k b o (fun q => by rw [q, hN.2.2] at e; cases e) (S.F.keep b o e), S.F.above⟩
 ·rcases List.mem_cons.mp hq with rfl | hq
  ·exact ⟨ho, hN.2⟩
  ·exact ⟨k _ _ (fun e => hl (e ▸ List.mem_map_of_mem hq)) (S.N q (List.mem_cons_of_mem _ hq)).1, (S.N q (List.mem_cons_of_mem _ hq)).2⟩
 ·rcases List.mem_cons.mp hq with rfl | hq
  ·exact nt_cls (by refine (?_ : (Value.type "list") ≠ _); decide)
  ·exact S.nt q (List.mem_cons_of_mem _ hq)
end
section
variable {prog : Program} {w : World} {K : Type} [DecidableEq K] {sk : SKind prog w K} {lim : Nat} {A : Around} {E : Value -> Shared -> Prop} {s : Shared} {a : Addr} {l : List K} {k : K} {x : Value}
theorem notIn_yes {Q : Value -> Shared -> Prop} (S : SetAt sk lim s.heap a l) (hu : A.in1.units < cLine) (hok : sk.ok k) (hx : sk.is s.heap k x) (hk : k ∉ l) (h : ∀ tk, Q (.bool true) { s with toks := tk }) :
  wpAny (model prog w) A (compareOp .NotIn x (.ref a)) Q E s := notIn_set S hu hok hx (by refine (decide_eq_false hk).symm ▸ ?_; exact h)
theorem notIn_no {Q : Value -> Shared -> Prop} (S : SetAt sk lim s.heap a l) (hu : A.in1.units < cLine) (hok : sk.ok k) (hx : sk.is s.heap k x) (hk : k ∈ l) (h : ∀ tk, Q (.bool false) { s with toks := tk }) :
  wpAny (model prog w) A (compareOp .NotIn x (.ref a)) Q E s := notIn_set S hu hok hx (by refine (decide_eq_true hk).symm ▸ ?_; exact h)
end
end
local macro_rules | `(tactic| w_tidy) => `(tactic| (intro q hq; repeat (first | exact hq | exact List.mem_append_right _ hq | refine List.Mem.tail _ ?_)))
section
open PySem PySem.W PyProof.Rows PySem.Calls
end
-- HsPart
section
open PySem PySem.W PyProof.Rows PySem.Calls
structure Part (Φ : Heap -> Prop) (Pf : Addr -> Prop) : Prop where
 mv : ∀ {h h' : Heap}, Φ h -> (∀ b o, Pf b -> h.get? b = some o -> h'.get? b = some o) -> TupKeep h h' -> Φ h'
 al : ∀ {h : Heap} {b : Addr}, Φ h -> Pf b -> ∃ o, h.get? b = some o
theorem Part.and {Φ Ψ : Heap -> Prop} {Pf Pg : Addr -> Prop} (a : Part Φ Pf) (b : Part Ψ Pg) : Part (fun h => Φ h /\ Ψ h) (fun x => Pf x ∨ Pg x) :=
 ⟨fun q81 k t => x02 q81 fun x y => ⟨a.mv x (fun b o p => k b o (.inl p)) t, b.mv y (fun b o p => k b o (.inr p)) t⟩, fun q82 p => x02 q82 fun x y => p.elim (a.al x) (b.al y)⟩
theorem Part.none {Φ : Heap -> Prop} (h : ∀ {g g' : Heap}, Φ g -> TupKeep g g' -> Φ g') : Part Φ (fun _ => False) := ⟨fun x _ t => h x t, fun _ p => p.elim⟩
theorem Part.imp {Φ : Heap -> Prop} {Pf Pg : Addr -> Prop} (a : Part Φ Pf) (e : ∀ b, Pf b ↔ Pg b) : Part Φ Pg := ⟨fun x k t => a.mv x (fun b o p => k b o ((e b).mp p)) t, fun x p => a.al x ((e _).mpr p)⟩
section
variable {prog : Program} {w : World} {K : Type} [DecidableEq K]
theorem Part.dict {dk : DKind prog w K} {d : Addr} {l : List (K × Value)} : Part (fun h => DictAt dk h d l) (fun b => b = d) :=
 ⟨fun D k t => D.keep (fun o e => k _ o rfl e) t, fun D p => by obtain ⟨_, es, ep, e, _⟩ := D; exact ⟨_, p ▸ e⟩⟩
theorem Part.dfa {kk : KK prog w K} {hz0 : Heap} {P : Addr -> Prop} {x : Addr} {Y : DLay K} {M : DMod K} : Part (fun h => DfaM kk hz0 P h x Y M) (fun b => P b ∨ b = x ∨ b = Y.dx) :=
 ⟨fun D k t => D.move k t, fun D p => by
  rcases p with p | rfl | rfl
  ·exact D.pa _ p
  ·exact ⟨_, D.ox⟩
  ·exact ⟨_, D.od⟩⟩
theorem Part.tups {vs : List Value} {l : List (List Int)} : Part (fun h => TupsAre h vs l) (fun _ => False) := Part.none fun x t => x.keep t
end
structure Hs (g sh : Heap) (L : Addr) (fr : List (Addr × Obj)) (Φ : Heap -> Prop) (Pf : Addr -> Prop) (h : Heap) (m : Str -> Option Value) : Prop extends Led g L fr h m where
 part : Part Φ Pf
 phi : Φ h
 as : ∀ b, Pf b -> Led.Aside L fr b /\ sh.get? b = none
section
variable {g sh h h' : Heap} {L : Addr} {fr fr' : List (Addr × Obj)} {Φ Φ' : Heap -> Prop} {Pf Pf' : Addr -> Prop} {m m' : Str -> Option Value}
theorem Hs.step (S : Hs g sh L fr Φ Pf h m) (F' : Fr g L h' m') {nl : List (Addr × Obj)} (N' : News g L h' nl) (hall : ∀ q ∈ allOf g L (fr.map (·.1)) h, q ∈ nl) (hfr : ∀ q ∈ fr', q ∈ nl)
  (hnt : ∀ q ∈ fr', ¬ TupO q.2) (hDD : ∀ q ∈ fr', q.1 ∈ fr.map (·.1) ∨ h.get? q.1 = none) : Hs g sh L fr' Φ Pf h' m' := by
 have k := S.kp F' N' hall
 have tk := S.tk k
 refine ⟨⟨F', fun q hq => N' q (hfr q hq), hnt⟩, S.part, S.part.mv S.phi (fun b o p e => k b o (S.as b p).1.1 (S.as b p).1.2 e) tk, fun b p => ⟨⟨(S.as b p).1.1, fun hb' => ?_⟩, (S.as b p).2⟩⟩
 refine x11 (S.part.al S.phi p) fun o e => ?_
 refine x12 (List.mem_map.mp hb') fun q hq q91 => ?_; subst q91
 rcases hDD q hq with r | r
 ·exact (S.as _ p).1.2 r
 ·rw [e] at r; cases r
theorem Hs.same (S : Hs g sh L fr Φ Pf h m) (F' : Fr g L h' m') {nl : List (Addr × Obj)} (N' : News g L h' nl) (hsub : ∀ q ∈ fr ++ allOf g L (fr.map (·.1)) h, q ∈ nl) : Hs g sh L fr Φ Pf h' m' :=
 S.step F' N' (fun q hq => hsub q (List.mem_append_right _ hq)) (fun q hq => hsub q (List.mem_append_left _ hq)) S.nt fun q hq => .inl (List.mem_map_of_mem hq)
theorem Hs.tkS (S : Hs g sh L fr Φ Pf h m) (F' : Fr g L h' m') {nl : List (Addr × Obj)} (N' : News g L h' nl) (hsub : ∀ q ∈ fr ++ allOf g L (fr.map (·.1)) h, q ∈ nl) : TupKeep h h' :=
 S.tk (S.kp F' N' fun q hq => hsub q (List.mem_append_right _ hq))
theorem Hs.stay' (S : Hs g sh L fr Φ Pf h m) (k : ∀ b o, h.get? b = some o -> h'.get? b = some o) : Hs g sh L fr Φ Pf h' m :=
 ⟨S.toLed.stay k, S.part, S.part.mv S.phi (fun b o _ e => k b o e) fun b o e _ => k b o e, S.as⟩
theorem Hs.change (S : Hs g sh L fr Φ Pf h m) (k : ∀ b o, ¬ Pf b -> h.get? b = some o -> h'.get? b = some o) (hP : ∀ b, Pf' b -> Pf b ∨ h.get? b = none) (part' : Part Φ' Pf') (phi' : Φ' h')
  (hg : ∀ b, sh.get? b = none -> g.get? b = none) (hsh : ∀ b, h.get? b = none -> sh.get? b = none) : Hs g sh L fr Φ' Pf' h' m :=
 ⟨S.toLed.off k (fun q => (S.as _ q).1.1 rfl) (fun q hq e => (S.as _ e).1.2 (List.mem_map_of_mem hq)) (fun b q => hg b (S.as b q).2), part', phi', fun b q => (hP b q).elim (S.as b) fun q => ⟨S.toLed.fresh_aside q, hsh _ q⟩⟩
theorem Hs.add (S : Hs g sh L fr Φ Pf h m) (N : News g L h fr') (hnt : ∀ q ∈ fr', ¬ TupO q.2) (hn : ∀ b, Pf b -> b ∉ fr'.map (·.1)) : Hs g sh L (fr' ++ fr) Φ Pf h m :=
 ⟨⟨S.F, News.append N S.N, fun q hq => (List.mem_append.mp hq).elim (hnt q) (S.nt q)⟩, S.part, S.phi, fun b p => ⟨⟨(S.as b p).1.1, by rw [List.map_append, List.mem_append]; exact fun q => q.elim (hn b p) (S.as b p).1.2⟩, (S.as b p).2⟩⟩
theorem Hs.turn {own own' : List (Addr × Obj)} {I : Addr} (S : Hs g sh L (fr ++ own') Φ Pf h m) (F' : Fr g L h' m') (N' : News g L h' ((fr ++ allOf g L ((fr ++ own').map (·.1)) h) ++ own)) (ho : ∀ p ∈ own, p.1 = I /\ p.2.cls ≠ .type "tuple") (hI : I ∈ own'.map (·.1) ∨ h.get? I = none) : Hs g sh L (fr ++ own) Φ Pf h' m' :=
 S.step F' N' (fun q hq => List.mem_append_left _ (List.mem_append_right _ hq)) (fun q hq => (List.mem_append.mp hq).elim (fun hq => List.mem_append_left _ (List.mem_append_left _ hq)) (List.mem_append_right _))
  (fun q hq => (List.mem_append.mp hq).elim (fun hq => S.nt q (List.mem_append_left _ hq)) fun hq => nt_cls (ho q hq).2) (fun q hq => (List.mem_append.mp hq).elim (fun hq => .inl (List.mem_map_of_mem (List.mem_append_left _ hq))) fun hq => by
   rw [(ho q hq).1]
   exact hI.elim (fun h => .inl (by rw [List.map_append]; exact List.mem_append_right _ h)) .inr)
theorem Hs.leave {own' : List (Addr × Obj)} (S : Hs g sh L (fr ++ own') Φ Pf h m) (F' : Fr g L h' m') (N' : News g L h' (fr ++ allOf g L ((fr ++ own').map (·.1)) h)) : Hs g sh L fr Φ Pf h' m' :=
 S.step F' N' (fun q hq => List.mem_append_right _ hq) (fun q hq => List.mem_append_left _ hq) (fun q hq => S.nt q (List.mem_append_left _ hq)) fun q hq => .inl (List.mem_map_of_mem (List.mem_append_left _ hq))
theorem Hs.turnK {own own' : List (Addr × Obj)} (S : Hs g sh L (fr ++ own') Φ Pf h m) (F' : Fr g L h' m') (N' : News g L h' ((fr ++ allOf g L ((fr ++ own').map (·.1)) h) ++ own)) : TupKeep h h' :=
 S.tk (S.kp F' N' fun q hq => List.mem_append_left _ (List.mem_append_right _ hq))
theorem Hs.turnL {own own' : List (Addr × Obj)} {fp : List Addr} (S : Hs g sh L (fr ++ own') Φ Pf h m) (F' : Fr g L h' m') (N' : News g L h' ((fr ++ allOf g L ((fr ++ own').map (·.1)) h) ++ own)) (ho : ∀ p ∈ own, p.1 ∈ fp /\ p.2.cls ≠ .type "tuple") (hI : ∀ a ∈ fp, a ∈ own'.map (·.1) ∨ h.get? a = none) : Hs g sh L (fr ++ own) Φ Pf h' m' :=
 S.step F' N' (fun q hq => List.mem_append_left _ (List.mem_append_right _ hq)) (fun q hq => (List.mem_append.mp hq).elim (fun hq => List.mem_append_left _ (List.mem_append_left _ hq)) (List.mem_append_right _))
  (fun q hq => (List.mem_append.mp hq).elim (fun hq => S.nt q (List.mem_append_left _ hq)) fun hq => nt_cls (ho q hq).2) (fun q hq => (List.mem_append.mp hq).elim (fun hq => .inl (List.mem_map_of_mem (List.mem_append_left _ hq))) fun hq =>
   (hI _ (ho q hq).1).elim (fun h => .inl (by rw [List.map_append]; exact List.mem_append_right _ h)) .inr)
noncomputable def ledOf {g : Heap} {L : Addr} {fr : List (Addr × Obj)} {h : Heap} {m : Str -> Option Value} (_ : Led g L fr h m) : List (Addr × Obj) := fr
theorem Led.name (_ : Led g L fr h m) : ∃ fr', fr' = fr := ⟨fr, rfl⟩
theorem hs_first {prog : Program} {w : World} {K : Type} [DecidableEq K] {dk : DKind prog w K} {D : Addr} {oD : Obj} {l : List (K × Value)} {e1 e2 : Addr × Obj} {rest : List (Addr × Obj)} (F : Fr g L h m) (N : News g L h (e1 :: e2 :: (D, oD) :: rest)) (DD : DictAt dk h D l) (nt : ∀ q ∈ e1 :: e2 :: rest, ¬ TupO q.2) (hne : ∀ q ∈ e1 :: e2 :: rest, q.1 ≠ D) (sD : sh.get? D = none) :
  Hs g sh L (e1 :: e2 :: rest) (fun h => DictAt dk h D l) (fun b => b = D) h m :=
 ⟨⟨F, fun q hq => N q (by
  rcases List.mem_cons.mp hq with rfl | hq
  ·exact .head _
  ·rcases List.mem_cons.mp hq with rfl | hq
   ·exact .tail _ (.head _)
   ·exact .tail _ (.tail _ (.tail _ hq))), nt⟩, Part.dict, DD, fun b e => by
  subst e
  exact ⟨⟨(N (b, oD) (.tail _ (.tail _ (.head _)))).2.1, fun q => by
   refine x12 (List.mem_map.mp q) fun p hp e => ?_
   exact hne p hp e⟩, sD⟩⟩
theorem Hs.drop (S : Hs g sh L fr Φ Pf h m) (hs : ∀ q ∈ fr', q ∈ fr) : Hs g sh L fr' Φ Pf h m :=
 ⟨⟨S.F, fun q hq => S.N q (hs q hq), fun q hq => S.nt q (hs q hq)⟩, S.part, S.phi, fun b p => ⟨⟨(S.as b p).1.1, fun q => by
  refine x12 (List.mem_map.mp q) fun r hr q92 => ?_; subst q92
  exact (S.as _ p).1.2 (List.mem_map_of_mem (hs r hr))⟩, (S.as b p).2⟩⟩
theorem Hs.mono (S : Hs g sh L fr Φ Pf h m) (part' : Part Φ' Pf') (h1 : Φ h -> Φ' h) (h2 : ∀ b, Pf' b -> Pf b) : Hs g sh L fr Φ' Pf' h m := ⟨S.toLed, part', h1 S.phi, fun b p => S.as b (h2 b p)⟩
theorem Hs.snoc {r : Addr} {o : Obj} (S : Hs g sh L fr Φ Pf h m) (k : ∀ b o, h.get? b = some o -> h'.get? b = some o) (hr : h.get? r = none) (ho : h'.get? r = some o) (hnt : ¬ TupO o) : Hs g sh L (fr ++ [(r, o)]) Φ Pf h' m := by
 have S' := S.stay' k
 have as := S.toLed.fresh_aside hr
 have gr : g.get? r = none := (fresh_off S.F hr).2
 exact (S'.add (fr' := [(r, o)]) (fun q hq => by simp only [List.mem_singleton] at hq; subst hq; exact ⟨ho, as.1, gr⟩) (fun q hq => by simp only [List.mem_singleton] at hq; subst hq; exact hnt) (fun b p q => by
  simp at q; subst q
  refine x11 (S.part.al S.phi p) fun o' e => ?_
  rw [hr] at e; cases e)).drop fun q hq => (List.mem_append.mp hq).elim (fun h => List.mem_append_right _ h) (fun h => List.mem_append_left _ h)
end
section
variable {prog : Program} {w : World} {K : Frag} {p : Program} {loose : List Str} {mean : ExcName -> Option Value} {mg mb : Str -> Option Value} {hz0 : Heap}
theorem enterX {s : Shared} {dp un : Nat} {fr : List Env} {gd : Option (List Code)} {R : Result -> Shared -> Prop} {name qual : Str} {params : Arguments} {body : List Stmt} {scope : Scope} {cl : List (Str × Addr)} {dV kV doc pm cdv ct : Value} {an : Option Addr} {f : Addr} {fo : Obj} {args : Args} {binds : List (Str × Value)}
  (news : List (Addr × Obj)) (H : Base K p loose mean mg mb hz0) (hk : ∀ b o, hz0.get? b = some o -> s.heap.get? b = some o) (N : ∀ q ∈ news, s.heap.get? q.1 = some q.2 /\ hz0.get? q.1 = none)
  (ho : s.heap.get? f = some fo) (hd : fo.data = .func (fnX name qual params body scope cl dV kV doc pm an cdv ct)) (hcd : s.heap.CodeRec cdv qual) (hroom : dp < recursionLimit)
  (hbind : BindsTo s (fnX name qual params body scope cl dV kV doc pm an cdv ct) args binds) (hloc : ∀ y ∈ binds, scope.names.lookup y.1 = some .local)
  (h : ∀ g hz1, (∀ b o, s.heap.get? b = some o -> b ∉ news.map (·.1) -> g.get? b = some o) -> (∀ b o, g.get? b = some o -> s.heap.get? b = some o) -> (∀ b o, s.heap.get? b = some o -> hz1.get? b = some o) -> Fr g s.heap.objs.size hz1 (fun y => binds.reverse.lookup y) -> News g s.heap.objs.size hz1 news -> K.In g -> Top p loose mean mg mb g ->
   wpAny (model prog w) ((A0 dp un fr gd).deeper (envX qual scope s.heap.objs.size f cdv cl)) (execs body (envX qual scope s.heap.objs.size f cdv cl))
    (fun fl s' => R (.ok (.ret (match fl with | .ret v => v | _ => .none))) s') (fun _ _ => False)
    { s with heap := hz1, toks := s.toks + binds.length })
  (hco : scope.isCoroutine = false) (hgen : scope.isGenerator = false) (hkd : scope.kind = .function)
  (hcell : ∀ x ∈ scope.names, x.2 ≠ .cell) : codeAny (model prog w) (A0 dp un fr gd) (.call (.ref f) args) R s := by
 refine codeAny_call_def (fd := fnX name qual params body scope cl dV kV doc pm an cdv ct) (body := body) (binds := binds) hroom ho hd (H.T.nolimit.keeps hk) hcd rfl hbind hcell hloc (fun hz1 hns hkz1 => ?_) hco hgen hkd
 have nm : ∀ b o, hz0.get? b = some o -> b ∉ news.map (·.1) := fun b o e q => by
  refine x12 (List.mem_map.mp q) fun p hp q93 => ?_; subst q93
  rw [(N p hp).2] at e; cases e
 have st : ∀ b o, hz0.get? b = some o -> (hideAll s.heap (news.map (·.1))).get? b = some o := fun b o e => hideAll_get _ (hk b o e) (nm b o e)
 refine wpAny_mono (h (hideAll s.heap (news.map (·.1))) hz1 (fun b o e n => hideAll_get _ e n) (fun b o e => of_hideAll _ e) hkz1 ⟨hns, fun b o e => hkz1 b o (of_hideAll _ e), Nat.le_of_eq (hideAll_size _ _)⟩
  (fun p hp => ⟨hkz1 _ _ (N p hp).1, Nat.ne_of_lt (Heap.lt_size (N p hp).1), hideAll_none _ (List.mem_map_of_mem hp)⟩) (H.X.keeps st) (H.T.keeps st)) (fun _ _ x => x) fun _ _ x => x.elim
theorem enterC {s : Shared} {dp un : Nat} {fr : List Env} {gd : Option (List Code)} {R : Result -> Shared -> Prop} {name qual : Str} {params : Arguments} {body : List Stmt} {scope : Scope} {dV kV doc pm cdv ct oc : Value} {an od : Option Addr} {osl : Array (Option Value)} {f : Addr} {args : Args} {binds : List (Str × Value)}
  (news : List (Addr × Obj)) (H : Base K p loose mean mg mb hz0) (hk : ∀ b o, hz0.get? b = some o -> s.heap.get? b = some o) (N : ∀ q ∈ news, s.heap.get? q.1 = some q.2 /\ hz0.get? q.1 = none)
  (ho : K.lookup f = some ⟨oc, od, .func (fnOf name qual params body scope dV kV doc pm an cdv ct), osl⟩) (hcd : codeIn K cdv qual = true) (hroom : dp < recursionLimit)
  (hbind : BindsTo s (fnOf name qual params body scope dV kV doc pm an cdv ct) args binds)
  (hkind : ∀ n, ∀ x ∈ binds, scope.names.lookup x.1 = some .local ∨ (scope.names.lookup x.1 = some .cell /\ ((cellsFrom n scope.names []).lookup x.1).isSome = true))
  (hnd : ((cellsFrom 0 scope.names []).map (·.1)).Nodup)
  (h : ∀ g hz1 tk cells, (∀ b o, s.heap.get? b = some o -> b ∉ news.map (·.1) -> g.get? b = some o) -> (∀ b o, g.get? b = some o -> s.heap.get? b = some o) -> (∀ b o, s.heap.get? b = some o -> hz1.get? b = some o) -> Fr g s.heap.objs.size hz1 (bindL (envOfC qual scope s.heap.objs.size f cdv).kindOf binds fun _ => none) -> News g s.heap.objs.size hz1 (cells ++ news) ->
   CellsAre (bindC (envOfC qual scope s.heap.objs.size f cdv).kindOf binds fun _ => none) (cellsFrom (s.heap.objs.size + 1) scope.names []) cells -> K.In g -> Top p loose mean mg mb g ->
   wpAny (model prog w) ((A0 dp un fr gd).deeper (envOfC qual scope s.heap.objs.size f cdv)) (execs body (envOfC qual scope s.heap.objs.size f cdv))
    (fun fl s' => R (.ok (.ret (match fl with | .ret v => v | _ => .none))) s') (fun _ _ => False)
    { s with heap := hz1, toks := tk })
  (hco : scope.isCoroutine = false) (hgen : scope.isGenerator = false) (hkd : scope.kind = .function) : codeAny (model prog w) (A0 dp un fr gd) (.call (.ref f) args) R s := by
 have X := H.X.keeps hk
 refine codeAny_call_function hroom (X _ _ ho) rfl hco hgen rfl (codeRec_of X hcd) (hbind _ _ _ _ ?_)
 refine wpAny_newFunctionEnv_cells hkd (hkind _) fun env' he s' x => ?_
 subst he
 refine ⟨(H.T.nolimit.keeps hk).keeps x.toInCall.keep, codeAny_func ?_⟩
 refine hidG fun GG hGG => ?_
 refine x22 x.done fun hz1 tk q94 _ => ?_; subst q94
 have hkz1 := x.toInCall.keep
 refine x12 (Cl.news (h₀ := s.heap) (Nat.le_refl _) fun n c hm => ⟨x.cell n c (lookup_of_mem_nodup (cellsFrom_names scope.names 0 (s.heap.objs.size + 1) [] [] rfl ▸ hnd) hm), x.above n c hm⟩) fun cells NC Y => ?_
 refine hGG ?_
 have nm : ∀ b o, hz0.get? b = some o -> b ∉ news.map (·.1) := fun b o e q => by
  refine x12 (List.mem_map.mp q) fun p hp q95 => ?_; subst q95
  rw [(N p hp).2] at e; cases e
 have st : ∀ b o, hz0.get? b = some o -> (hideAll s.heap (news.map (·.1))).get? b = some o := fun b o e => hideAll_get _ (hk b o e) (nm b o e)
 refine wpAny_mono (h (hideAll s.heap (news.map (·.1))) hz1 tk cells (fun b o e n => hideAll_get _ e n) (fun b o e => of_hideAll _ e) hkz1 ⟨x.toInCall.ns, fun b o e => hkz1 b o (of_hideAll _ e), Nat.le_of_eq (hideAll_size _ _)⟩ (fun p hp => ?_) Y (H.X.keeps st) (H.T.keeps st)) (fun _ _ x => x) fun _ _ x => x.elim
 rcases List.mem_append.mp hp with hp | hp
 ·refine ⟨(NC p hp).1, (NC p hp).2.1, ?_⟩
  cases q : (hideAll s.heap (news.map (·.1))).get? p.1 with
  | none => rfl
  | some o => have := of_hideAll _ q; rw [(NC p hp).2.2] at this; cases this
 ·exact ⟨hkz1 _ _ (N p hp).1, Nat.ne_of_lt (Heap.lt_size (N p hp).1), hideAll_none _ (List.mem_map_of_mem hp)⟩
end
end
-- DictIt
section
open PySem PySem.W PyProof.Rows PySem.Calls
section
variable {prog : Program} {w : World} {K : Type} [DecidableEq K] {dk : DKind prog w K} {A : Around} {E : Value -> Shared -> Prop} {s : Shared} {d : Addr} {l : List (K × Value)}
noncomputable abbrev viewO (d : Addr) : Obj := { cls := .type "dict_items", data := .fields #[.ref d] }
theorem call_items {Q : Value -> Shared -> Prop} (D : DictAt dk s.heap d l) (h : ∀ h' v, (∀ b o, s.heap.get? b = some o -> h'.get? b = some o) -> h'.get? v = some (viewO d) -> Q (.ref v) { s with heap := h' }) :
  wpAny (model prog w) A (call (.builtin "dict.items") [.ref d]) Q E s := by
 refine wpAny_call_entry PySem.F.slot_dict_items D.typeIs F.entry_dict_items ?_ (F.args_dict_items_1 _)
 skip
 refine wpAny_bind (wpAny_bind (wpAny_notOrdered_dict D.typeIs ?_))
 refine wpAny_pure ?_
 have e : Builtin.Dict.showsAll d = pure () := by unfold Builtin.Dict.showsAll; rw [if_neg (by simpa using D.1)]
 refine wpAny_bind (wpAny_of_eq e ?_)
 exact wpAny_bind (wpAny_newObj_type (wpAny_pure ⟨_, rfl, h _ _ (fun b o q => Heap.get?_push_of_some _ q) (Heap.get?_push_size _ rfl)⟩))
noncomputable abbrev itO (d : Addr) (o : Value) (i n ep : Nat) (ok ov : Value) : Obj := { cls := .type "dict_itemiterator", dict := none, data := .fields #[o, .bool false, .ref d, .int i 0, .int n 0, .int ep 0, ok, ov], slots := #[] }
theorem iter_items {v : Addr} {es : Array DictEntry} {ep : Nat} {Q : Value -> Shared -> Prop} (hv : s.heap.get? v = some (viewO d)) (hd : s.heap.get? d = some (dictO es ep))
  (h : Q (.ref s.heap.objs.size) { s with heap := s.heap.push (itO d .none 0 es.size ep .none .none) }) : wpAny (model prog w) A (pyIter (.ref v)) Q E s := by
 have hT : s.TypeIs (.ref v) "dict_items" := ⟨_, hv, rfl⟩
 refine wpAny_pyIter_slot hT PySem.F.slot_dict_items_iter (wpAny_call_entry PySem.F.slot_dict_items_iter hT F.entry_dict_items_iter ?_ (F.args_dict_items_iter_1 _))
 skip
 refine wpAny_bind (wpAny_pure ?_)
 refine wpAny_bind (wpAny_bind (wpAny_field hv rfl (x := .ref d) rfl (wpAny_pure ?_)))
 refine wpAny_bind ?_
 skip
 refine wpAny_bind (wpAny_dictEntries hd rfl (wpAny_bind (wpAny_dictEpoch hd rfl ?_)))
 have hown : Builtin.Dict_items.ownsTuple "dict_itemiterator" = true := by decide
 simp only [hown, if_true]
 refine wpAny_newObj_type (wpAny_pure ⟨_, rfl, "dict_itemiterator", _, ⟨_, Heap.get?_push_size _ rfl, rfl⟩, PySem.F.slot_dict_itemiterator_next.lookup, ?_⟩)
  (by simp only [sizeOk, Builtin.Dict_items.ownedTupleFields, List.size_toArray, List.length_append, List.length_cons, List.length_nil, sizeLine_eq]; lia)
 simpa [itO, rawInt, Builtin.Dict_items.ownedTupleFields] using h
theorem next_items {it : Addr} {es : Array DictEntry} {ep i : Nat} {ok ov : Value} {e : DictEntry} {Q : Option Value -> Shared -> Prop} (hit : s.heap.get? it = some (itO d .none i es.size ep ok ov)) (hd : s.heap.get? d = some (dictO es ep)) (he : es[i]? = some e)
  (hQ : ∀ (h' : Heap) (T : Addr), h'.get? it = some (itO d (rawInt T) (i + 1) es.size ep e.key e.val) -> h'.get? T = some { cls := .type "tuple", data := .seq #[e.key, e.val] } -> s.heap.get? T = none ->
   (∀ b o, b ≠ it -> s.heap.get? b = some o -> h'.get? b = some o) -> Q (some (.ref T)) { s with heap := h' }) : wpAny (model prog w) A (pyNext (.ref it)) Q E s := by
 have hT : s.TypeIs (.ref it) "dict_itemiterator" := ⟨_, hit, rfl⟩
 have hlt : i < es.size := by
  refine Or.elim (Nat.lt_or_ge i es.size) (fun q => ?_) fun q => ?_
  ·exact q
  ·rw [Array.getElem?_eq_none q] at he; cases he
 skip
 refine wpAny_bind (wpAny_attempt (wpAny_callSpecial?_slot (name := Str.ofString "__next__") hT PySem.F.slot_dict_itemiterator_next (wpAny_call_entry PySem.F.slot_dict_itemiterator_next hT F.entry_dict_itemiterator_next ?_ (F.args_dict_itemiterator_next_1 _))))
 refine wpAny_bind (wpAny_pure ?_)
 refine wpAny_bind (wpAny_bind (wpAny_bind (wpAny_typeNameOfWhole_itemiter hT (wpAny_pure ?_))))
 refine wpAny_bind (wpAny_fieldsOf hit rfl ?_)
 have hown : Builtin.Dict_items.ownsTuple "dict_itemiterator" = true := by decide
 skip
 refine (?_ : wpAny _ _ (if (Value.ref d == Value.none) = true then _ else _) _ _ _)
 rw [if_neg (show ¬ ((Value.ref d == Value.none) = true) from Bool.false_ne_true)]
 refine wpAny_bind (wpAny_pure (wpAny_bind (wpAny_dictEntries hd rfl ?_)))
 rw [if_neg (by simp)]
 refine wpAny_bind (wpAny_pure (wpAny_bind (wpAny_dictEpoch hd rfl ?_)))
 rw [if_neg (by simp)]
 refine wpAny_pure ?_
 simp only [show ¬ ((i : Int) < 0) from by lia, if_false, Int.toNat_natCast, he]
 refine wpAny_bind (wpAny_bind (wpAny_typeNameOfWhole_itemiter hT (wpAny_pure ?_)))
 refine wpAny_bind (wpAny_isOneOf_itemiter hT ?_)
 refine (?_ : wpAny _ _ (setField (.ref it) 3 (rawInt ((i : Int) + 1)) >>= _) _ _ s)
 refine wpAny_bind (wpAny_setField_rec hit (by simp) fun hz1 he1 hszz1 => ?_)
 replace he1 : hz1.get? it = some (itO d .none (i + 1) es.size ep ok ov) := by
  have q : ((i + 1 : Nat) : Int) = (i : Int) + 1 := by lia
  unfold itO; rw [q]; simpa [rawInt] using he1
 have hT1 : Shared.TypeIs { s with heap := hz1 } (.ref it) "dict_itemiterator" := ⟨_, he1, rfl⟩
 refine wpAny_bind (wpAny_holding (wpAny_bind (wpAny_isOneOf_itemiter hT1 (wpAny_bind (wpAny_isOneOf_itemiter hT1 ?_)))))
 refine (?_ : wpAny _ _ (Builtin.Dict_items.pairFromOwner (.ref it) 6 e.key e.val) _ _ { s with heap := hz1 })
 skip
 refine wpAny_bind (wpAny_newTuple ?_)
 have kp1 : ∀ b o, hz1.get? b = some o -> (hz1.push { cls := .type "tuple", data := .seq #[e.key, e.val] }).get? b = some o := fun b o q => Heap.get?_push_of_some _ q
 have kpT : (hz1.push { cls := .type "tuple", data := .seq #[e.key, e.val] }).get? hz1.objs.size = some { cls := .type "tuple", data := .seq #[e.key, e.val] } := Heap.get?_push_size _ rfl
 have hT0 : s.heap.get? hz1.objs.size = none := by
  have := fresh_size s.heap
  rwa [← hszz1.1] at this
 have hTi : hz1.objs.size ≠ it := fun q => by rw [q, hit] at hT0; cases hT0
 refine (?_ : wpAny _ _ (Builtin.Dict_items.ownedTupleIsFree (.ref it) >>= _) _ _ { s with heap := hz1.push _ })
 generalize hz1.push { cls := .type "tuple", data := .seq #[e.key, e.val] } = hzz2 at kp1 kpT ⊢
 generalize hz1.objs.size = T at kpT hT0 hTi ⊢
 have hez2 := kp1 _ _ he1
 refine wpAny_bind ?_
 skip
 refine wpAny_bind (wpAny_field hez2 rfl (x := .none) rfl (wpAny_pure ?_))
 refine wpAny_ite_true (by first | rfl | rfl) ?_
 refine wpAny_bind (wpAny_field hez2 rfl (x := ok) rfl (wpAny_bind (wpAny_field hez2 rfl (x := ov) rfl ?_)))
 refine wpAny_bind (wpAny_setField_rec hez2 (by simp) fun hz3 he3 hsz3 => ?_)
 replace he3 : hz3.get? it = some (itO d .none (i + 1) es.size ep e.key ov) := he3
 refine wpAny_bind (wpAny_setField_rec he3 (by simp) fun hz4 he4 hsz4 => ?_)
 replace he4 : hz4.get? it = some (itO d .none (i + 1) es.size ep e.key e.val) := he4
 refine wpAny_bind (wpAny_setField_rec he4 (by simp) fun hz5 he5 hsz5 => ?_)
 replace he5 : hz5.get? it = some (itO d (rawInt T) (i + 1) es.size ep e.key e.val) := he5
 refine wpAny_bind (wpAny_setField_rec he5 (by simp) fun hz6 he6 hsz6 => ?_)
 replace he6 : hz6.get? it = some (itO d (rawInt T) (i + 1) es.size ep e.key e.val) := he6
 have all : ∀ b o, b ≠ it -> hzz2.get? b = some o -> hz6.get? b = some o := fun b o hb q => (hsz6.2 b hb).trans ((hsz5.2 b hb).trans ((hsz4.2 b hb).trans ((hsz3.2 b hb).trans q)))
 exact wpAny_bind (wpAny_letGo (wpAny_pure (wpAny_pure ⟨_, rfl, wpAny_pure (hQ hz6 T he6 (all _ _ hTi kpT) hT0 fun b o hb q => all b o hb (kp1 _ _ ((hszz1.2 b hb).trans q)))⟩)))
theorem end_items {it : Addr} {es : Array DictEntry} {ep i : Nat} {ok ov : Value} {Q : Option Value -> Shared -> Prop} (hh : A.handled = none) (hit : s.heap.get? it = some (itO d .none i es.size ep ok ov)) (hd : s.heap.get? d = some (dictO es ep)) (he : es[i]? = none)
  (hQ : ∀ h', Heap.ExtBut it s.heap h' -> Q none { s with heap := h' }) : wpAny (model prog w) A (pyNext (.ref it)) Q E s := by
 have hT : s.TypeIs (.ref it) "dict_itemiterator" := ⟨_, hit, rfl⟩
 skip
 refine wpAny_bind (wpAny_attempt (wpAny_callSpecial?_slot (name := Str.ofString "__next__") hT PySem.F.slot_dict_itemiterator_next (wpAny_call_entry PySem.F.slot_dict_itemiterator_next hT F.entry_dict_itemiterator_next ?_ (F.args_dict_itemiterator_next_1 _))))
 refine wpAny_bind (wpAny_pure ?_)
 refine wpAny_bind (wpAny_bind (wpAny_bind (wpAny_typeNameOfWhole_itemiter hT (wpAny_pure ?_))))
 refine wpAny_bind (wpAny_fieldsOf hit rfl ?_)
 have hown : Builtin.Dict_items.ownsTuple "dict_itemiterator" = true := by decide
 skip
 refine (?_ : wpAny _ _ (if (Value.ref d == Value.none) = true then _ else _) _ _ _)
 refine (if_neg (show ¬ ((Value.ref d == Value.none) = true) from Bool.false_ne_true)).symm ▸ ?_
 refine wpAny_bind (wpAny_pure (wpAny_bind (wpAny_dictEntries hd rfl ?_)))
 rw [if_neg (by simp)]
 refine wpAny_bind (wpAny_pure (wpAny_bind (wpAny_dictEpoch hd rfl ?_)))
 rw [if_neg (by simp)]
 refine wpAny_pure ?_
 simp only [show ¬ ((i : Int) < 0) from by lia, if_false, Int.toNat_natCast, he]
 refine wpAny_bind (wpAny_bind (wpAny_typeNameOfWhole_itemiter hT (wpAny_pure ?_)))
 refine (?_ : wpAny _ _ (setField (.ref it) 2 .none >>= _) _ _ s)
 refine wpAny_bind (wpAny_setField hit rfl (by simp) ?_)
 show wpAny _ _ (newExc (.type "StopIteration") [] >>= _) _ _ _
 refine wpAny_bind ?_
 refine wpAny_bind (wpAny_newObj_type ?_ (by size_fits))
 refine wpAny_bind (m := firstArgMember _ _) (wpAny_of_eq (a := Value.none) (by first | rfl | (simp only [firstArgMember]; rfl)) ?_)
 refine wpAny_newObj_type ?_ (by size_fits)
 dsimp only [raiseNew]
 refine wpAny_bind (wpAny_handled ?_)
 refine (show A.in1.handled = none from hh).symm ▸ ?_
 refine wpAny_bind (wpAny_pure (wpAny_throw ?_))
 refine wpAny_bind (wpAny_isInstance (T := "StopIteration") (b := true) ⟨_, Heap.get?_push_size _ rfl, rfl⟩ isSubtype_stop ?_)
 exact wpAny_pure (hQ _ (((Heap.SameBut.update ..).extBut.push _).push _))
end
end
-- IterI
section
open PySem PySem.W PyProof.Rows PySem.Calls
section
variable {prog : Program} {w : World} {A : Around} {E : Value -> Shared -> Prop} {s : Shared} {env : Env} {g : Heap} {Q : Flow -> Shared -> Prop} {body : List Stmt}
noncomputable abbrev tupO (vs : Array Value) : Obj := { cls := .type "tuple", data := .seq vs }
theorem assign_pair {a b : Str} {pa pb pt : Pos} {k : Nat} {T : Addr} {va vb : Value} {Q : Unit -> Shared -> Prop} (hh : A.handled = none) (ht : s.heap.IsTuple T #[va, vb])
  (h : ∀ h', (∀ b o, s.heap.get? b = some o -> h'.get? b = some o) -> wpAny (model prog w) A (storeName env a va) (fun _ s' => wpAny (model prog w) A (storeName env b vb) Q E s') E { s with heap := h' }) :
  wpAny (model prog w) A (assign (.Tuple [.Name a pa, .Name b pb] k pt) env (.ref T)) Q E s := by
 refine wpAny_assign_Tuple hh ht rfl rfl fun h' hx => ?_
 show wpAny _ _ (do holding [vb] (assign (.Name a pa) env va); do holding [] (assign (.Name b pb) env vb); pure ()) _ _ _
 refine wpAny_bind (wpAny_holding (wpAny_assign_Name (wpAny_mono (h h' fun b o e => hx b o (Nat.ne_of_lt (Heap.lt_size e)) e) (fun _ s' h1 => wpAny_bind (wpAny_holding (wpAny_assign_Name (wpAny_mono h1 (fun _ s'' h2 => wpAny_pure h2) fun _ _ e => e)))) fun _ _ e => e)))
theorem assign_three {a b c : Str} {pa pb pc pt : Pos} {k : Nat} {T : Addr} {va vb vc : Value} {Q : Unit -> Shared -> Prop} (hh : A.handled = none) (ht : s.heap.IsTuple T #[va, vb, vc])
  (h : ∀ h', (∀ b o, s.heap.get? b = some o -> h'.get? b = some o) -> wpAny (model prog w) A (storeName env a va) (fun _ s' => wpAny (model prog w) A (storeName env b vb) (fun _ s' => wpAny (model prog w) A (storeName env c vc) Q E s') E s') E { s with heap := h' }) :
  wpAny (model prog w) A (assign (.Tuple [.Name a pa, .Name b pb, .Name c pc] k pt) env (.ref T)) Q E s := by
 refine wpAny_assign_Tuple hh ht rfl rfl fun h' hx => ?_
 show wpAny _ _ (do holding [vb, vc] (assign (.Name a pa) env va); do holding [vc] (assign (.Name b pb) env vb); do holding [] (assign (.Name c pc) env vc); pure ()) _ _ _
 refine wpAny_bind (wpAny_holding (wpAny_assign_Name (wpAny_mono (h h' fun b o e => hx b o (Nat.ne_of_lt (Heap.lt_size e)) e) (fun _ s' h1 => wpAny_bind (wpAny_holding (wpAny_assign_Name (wpAny_mono h1 (fun _ s'' h2 => wpAny_bind (wpAny_holding (wpAny_assign_Name (wpAny_mono h2 (fun _ s3 h3 => wpAny_pure h3) fun _ _ e => e)))) fun _ _ e => e)))) fun _ _ e => e)))
theorem walk_items {elts : List Expr} {k : Nat} {pos : Pos} (hh : A.handled = none) {it d : Addr} (hne : d ≠ it) (es : Array DictEntry) (ep : Nat) :
  WalkG prog w A (.Tuple elts k pos) it [it, d] es.size (fun i v h => ∃ T e, v = .ref T /\ es[i]? = some e /\ h.get? T = some (tupO #[e.key, e.val])) (fun i h => (∃ ok ov, h.get? it = some (itO d .none i es.size ep ok ov)) /\ h.get? d = some (dictO es ep)) where
 self := by simp
 frame := fun i h h' ⟨⟨ok, ov, e⟩, e'⟩ hk => ⟨⟨ok, ov, hk _ (by simp) _ e⟩, hk _ (by simp) _ e'⟩
 cls := fun i h ⟨⟨ok, ov, e⟩, _⟩ => ⟨_, e, by show (Value.type "dict_itemiterator") ≠ _; decide⟩
 item := fun i s Q hi ⟨⟨ok, ov, e⟩, e'⟩ hQ => by
  have he : es[i]? = some es[i] := Array.getElem?_eq_getElem hi
  refine next_items e e' he fun h' T h1 h2 h3 h4 => ?_
  dsimp only
  have hTi : T ≠ it := fun q => by rw [q, e] at h3; cases h3
  refine wpAny_letOwnedTupleGo_items (d := d) (i := i + 1) (n := es.size) (ep := ep) (ok := es[i].key) (ov := es[i].val) h1 fun h'' he2 hs => ?_
  exact hQ _ h'' _ ⟨T, _, rfl, he, (hs.2 _ hTi).trans h2⟩ ⟨⟨_, _, he2⟩, (hs.2 _ hne).trans (h4 _ _ hne e')⟩ fun b o hb q => (hs.2 _ hb).trans (h4 _ _ hb q)
 done := fun s Q ⟨⟨ok, ov, e⟩, e'⟩ hQ => end_items hh e e' (by simp) fun h' hx => hQ h' _ fun b o hb q => hx b o hb q
theorem iter_itemsG {K : Type} [DecidableEq K] {dk : DKind prog w K} {E : Value -> Shared -> Prop} {elts : List Expr} {kt : Nat} {pos : Pos} {v d : Addr} {l : List (K × Value)} {m : Str -> Option Value} {news : List (Addr × Obj)} (J : Nat -> (Str -> Option Value) -> List (Addr × Obj) -> Prop) (D : DictAt dk g d l) (hv : s.heap.get? v = some (viewO d)) (hh : A.handled = none)
  (F : Fr g env.locals s.heap m) (N : News g env.locals s.heap news) (h0 : J 0 m news)
  (step : ∀ i k u key T mz1 news1 hz1 tk dr own, l[i]? = some (k, u) -> dk.is g k key -> hz1.get? T = some (tupO #[key, u]) -> J i mz1 news1 -> (∀ p ∈ news1, p.1 ∉ [s.heap.objs.size, d]) -> (∀ p ∈ own, p.1 = s.heap.objs.size /\ p.2.cls ≠ .type "tuple") -> (∃ o, (s.heap.objs.size, o) ∈ own) -> Fr g env.locals hz1 mz1 -> News g env.locals hz1 (news1 ++ own) ->
   wpAny (model prog w) A (assign (.Tuple elts kt pos) env (.ref T)) (fun _ sz3 => wpAny (model prog w) A (execs body env) (StepG g env.locals [s.heap.objs.size, d] own s (J (i + 1)) Q) noE sz3) noE { s with heap := hz1, toks := tk, drawn := dr })
  (fin : ∀ mz1 news1 hz1 tk dr, J l.length mz1 news1 -> Fr g env.locals hz1 mz1 -> News g env.locals hz1 news1 -> Q .next { s with heap := hz1, toks := tk, drawn := dr }) :
  wpAny (model prog w) A (pyIter (.ref v)) (fun it sz2 => Chu2 (LoopG prog w A g env (.Tuple elts kt pos) body Q) it sz2) E s := by
 obtain ⟨hsm, es, ep, ed, hE, hn⟩ := D
 have ed1 := F.keep _ _ ed
 refine iter_items hv ed1 ?_
 have hI : ∀ b o, s.heap.get? b = some o -> b ≠ s.heap.objs.size := fun b o e => Nat.ne_of_lt (Heap.lt_size e)
 have hk2 : ∀ b o, s.heap.get? b = some o -> (s.heap.push (itO d .none 0 es.size ep .none .none)).get? b = some o := fun b o e => Heap.get?_push_of_some _ e
 have hgI : (s.heap.push (itO d .none 0 es.size ep .none .none)).get? s.heap.objs.size = some (itO d .none 0 es.size ep .none .none) := Heap.get?_push_size _ rfl
 have hgfr := (fresh_off F (fresh_size s.heap))
 have hLd : env.locals ≠ d := fun q => by
  have := Nat.lt_of_lt_of_le (Heap.lt_size ed) F.above
  rw [q] at this; exact Nat.lt_irrefl _ this
 have hlen : es.size = l.length := by rw [← hE.length, Array.length_toList]
 refine (fun _ k9 => k9 s.heap.objs.size ([s.heap.objs.size, d]) es.size _ _ m news J (walk_items hh (hI _ _ ed1) es ep) ?_ hgfr.2 ?_ (⟨⟨_, _, hgI⟩, hk2 _ _ ed1⟩) (fr_stay F hk2) (news_stay N hk2) h0 ?_ ?_)
 ·simp only [List.mem_cons, List.not_mem_nil, or_false, not_or]
  exact ⟨fun q => hgfr.1 q.symm, hLd⟩
 ·intro p hp
  simp only [List.mem_cons, List.not_mem_nil, or_false, not_or]
  exact ⟨hI _ _ (N p hp).1, fun q => by have := (N p hp).2.2; rw [q, ed] at this; cases this⟩
 ·rintro i v' mz1 news1 hz1 tk dr own hi q85 hJ hnf hown hmem q86 F1 N1; refine x23 q85 fun T e q87 he hT => ?_; subst q87; refine x02 q86 fun q88 _ => ?_; refine x21 q88 fun ok ov hit => ?_
  rcases hE.get i with ⟨q, _⟩ | ⟨e', k, q1, q2, q3, q4⟩
  ·rw [Array.getElem?_toList, he] at q; cases q
  rw [Array.getElem?_toList, he] at q1
  cases q1
  refine step i k e.val e.key T mz1 news1 hz1 tk dr own q2 q4 hT hJ hnf (fun p hp => ?_) ⟨_, hmem _ (by simp) _ hit hgfr.2⟩ F1 N1
  have e1 := N1 p (List.mem_append_right _ hp)
  have q := hown p hp
  simp only [List.mem_cons, List.not_mem_nil, or_false] at q
  rcases q with q | q
  ·refine ⟨q, ?_⟩
   rw [q, hit] at e1
   have e2 := e1.1
   injection e2 with e2
   rw [← e2]
   show (Value.type "dict_itemiterator") ≠ _; decide
  ·rw [q, ed] at e1; cases e1.2.2
 ·exact fun mz1 news1 hz1 tk dr _ hJ F1 N1 => fin mz1 news1 hz1 tk dr (hlen ▸ hJ) F1 N1
end
end
-- IterT
section
open PySem PySem.W PyProof.Rows PySem.Calls
theorem pair_of {h : Heap} {a b : Int} {T : Addr} (x : IsTI h [a, b] T) : ∃ t1 t2, h.IsTuple T #[.int a t1, .int b t2] := by
 refine hidG fun GG hGG => ?_
 obtain ⟨o, items, n, ho, hc, hd, ts, hl, hi⟩ := x
 refine hGG ?_
 match ts, hl, hi with
 | [t1, t2], _, hi =>
  refine ⟨t1, t2, o, ho, hc, n, ?_⟩
  rw [hd, ← Array.toArray_toList (xs := items), hi]; rfl
theorem three_of {h : Heap} {a b c : Int} {T : Addr} (x : IsTI h [a, b, c] T) : ∃ t1 t2 t3, h.IsTuple T #[.int a t1, .int b t2, .int c t3] := by
 refine hidG fun GG hGG => ?_
 obtain ⟨o, items, n, ho, hc, hd, ts, hl, hi⟩ := x
 refine hGG ?_
 match ts, hl, hi with
 | [t1, t2, t3], _, hi =>
  refine ⟨t1, t2, t3, o, ho, hc, n, ?_⟩
  rw [hd, ← Array.toArray_toList (xs := items), hi]; rfl
theorem ti_pair {h : Heap} {a b : Int} {t1 t2 : Tok} {T : Addr} {n : Nat} {o : Obj} (e : h.get? T = some o) (c : o.cls = .type "tuple") (d : o.data = .seq #[.int a t1, .int b t2] n) : IsTI h [a, b] T := ⟨o, _, n, e, c, d, [t1, t2], rfl, rfl⟩
theorem TupsAre.get {h : Heap} {vs : List Value} {l : List (List Int)} (x : TupsAre h vs l) : ∀ (i : Nat) (v : Value), vs[i]? = some v -> ∃ b k, l[i]? = some k /\ v = .ref b /\ IsTI h k b := by
 induction x with
 | nil => exact fun i v e => nomatch e
 | @cons b k _ _ x r ih =>
  intro i v e
  cases i with
  | zero => exact ⟨b, k, rfl, (Option.some.inj e).symm, x⟩
  | succ i => exact ih i v e
section
variable {prog : Program} {w : World} {A : Around} {E : Value -> Shared -> Prop} {s : Shared} {env : Env} {g : Heap} {Q : Flow -> Shared -> Prop} {body : List Stmt}
theorem walk_listT {elts : List Expr} {k : Nat} {pos : Pos} (hh : A.handled = none) {I r : Addr} (hne : r ≠ I) (out : Array Value) (hv : ∀ v ∈ out.toList, ∃ b, v = .ref b) :
  WalkG prog w A (.Tuple elts k pos) I [I, r] out.size (fun i v _ => out[i]? = some v) (fun i h => h.IsListIter I r i /\ h.IsList r out) where
 self := by simp
 frame := (Walks.list (prog := prog) (w := w) hh I r hne out).frame
 cls := by
  rintro i h q83; refine x02 q83 fun q84 _ => ?_; refine x13 q84 fun oI h1 h2 _ => ?_
  exact ⟨oI, h1, by rw [h2]; decide⟩
 item := fun i s Q hi hst hQ => (Walks.list hh I r hne out).item i s _ _ hi hst fun v h' tk hP hst' hk => by
  dsimp only
  obtain ⟨b, rfl⟩ := hv v (Array.mem_toList_iff.mpr (Array.mem_of_getElem? hP))
  exact wpAny_letOwnedTupleGo_listiter hst'.1 (hQ _ h' tk hP hst' fun b o hb e => hk b o (by simpa using hb) e)
 done := fun s Q hst hQ => (Walks.list hh I r hne out).done s Q _ hst fun h' tk hk => hQ h' tk fun b o hb e => hk b o (by simpa using hb) e
theorem iter_tupsG {elts : List Expr} {kt : Nat} {pos : Pos} {out : Array Value} {c : Nat} {r : Addr} {m : Str -> Option Value} {news : List (Addr × Obj)} (J : Nat -> (Str -> Option Value) -> List (Addr × Obj) -> Prop) (ho : s.heap.get? r = some (listO out c)) (hv : ∀ v ∈ out.toList, ∃ b, v = .ref b) (hrL : env.locals ≠ r) (hrn : ∀ p ∈ news, p.1 ≠ r) (hh : A.handled = none)
  (F : Fr g env.locals s.heap m) (N : News g env.locals s.heap news) (h0 : J 0 m news)
  (step : ∀ i T mz1 news1 hz1 tk dr own, out[i]? = some (.ref T) -> J i mz1 news1 -> (∀ p ∈ news1, p.1 ∉ [s.heap.objs.size, r]) -> (∀ p ∈ own, p.1 ∈ [s.heap.objs.size, r] /\ p.2.cls ≠ .type "tuple") -> (∃ o, (s.heap.objs.size, o) ∈ own) -> (g.get? r = none -> ∃ o, (r, o) ∈ own) -> Fr g env.locals hz1 mz1 -> News g env.locals hz1 (news1 ++ own) ->
   wpAny (model prog w) A (assign (.Tuple elts kt pos) env (.ref T)) (fun _ sz3 => wpAny (model prog w) A (execs body env) (StepG g env.locals [s.heap.objs.size, r] own s (J (i + 1)) Q) noE sz3) noE { s with heap := hz1, toks := tk, drawn := dr })
  (fin : ∀ mz1 news1 hz1 tk dr, hz1.get? r = some (listO out c) -> J out.size mz1 news1 -> Fr g env.locals hz1 mz1 -> News g env.locals hz1 news1 -> Q .next { s with heap := hz1, toks := tk, drawn := dr }) :
  wpAny (model prog w) A (pyIter (.ref r)) (fun it sz2 => Chu2 (LoopG prog w A g env (.Tuple elts kt pos) body Q) it sz2) E s := by
 refine wpAny_pyIter_list (isList_listO ho) ?_
 have hI : ∀ b o, s.heap.get? b = some o -> b ≠ s.heap.objs.size := fun b o e => Nat.ne_of_lt (Heap.lt_size e)
 have hk2 : ∀ b o, s.heap.get? b = some o -> (s.heap.push { cls := .type "list_iterator", data := .fields #[.ref r, .int 0 0] }).get? b = some o := fun b o e => Heap.get?_push_of_some _ e
 have hgI : (s.heap.push { cls := .type "list_iterator", data := .fields #[.ref r, .int 0 0] }).get? s.heap.objs.size = some { cls := .type "list_iterator", data := .fields #[.ref r, .int 0 0] } := Heap.get?_push_size _ rfl
 have hgfr := (fresh_off F (fresh_size s.heap))
 refine (fun _ k9 => k9 s.heap.objs.size ([s.heap.objs.size, r]) out.size _ _ m news J ((walk_listT hh (hI _ _ ho) out hv).obj (o₀ := listO out c) (by simp) (hI _ _ ho)) ?_ hgfr.2 ?_ (⟨⟨⟨_, hgI, rfl, rfl⟩, isList_listO (hk2 _ _ ho)⟩, hk2 _ _ ho⟩) (fr_stay F hk2) (news_stay N hk2) h0 ?_ ?_)
 ·simp only [List.mem_cons, List.not_mem_nil, or_false, not_or]
  exact ⟨fun q => hgfr.1 q.symm, hrL⟩
 ·intro p hp
  simp only [List.mem_cons, List.not_mem_nil, or_false, not_or]
  exact ⟨hI _ _ (N p hp).1, hrn p hp⟩
 ·rintro i v mz1 news1 hz1 tk dr own hi hP hJ hnf hown hmem hst F1 N1
  refine hidG fun GG hGG => ?_
  obtain ⟨b, rfl⟩ := hv v (Array.mem_toList_iff.mpr (Array.mem_of_getElem? hP))
  obtain ⟨⟨⟨oI, e1, c1, _⟩, ⟨or, e2, c2, _⟩⟩, _⟩ := hst
  refine hGG ?_
  refine step i b mz1 news1 hz1 tk dr own hP hJ hnf (fun p hp => ⟨hown p hp, ?_⟩) ⟨oI, hmem _ (by simp) _ e1 hgfr.2⟩ (fun hgr => ⟨or, hmem _ (by simp) _ e2 hgr⟩) F1 N1
  have q := hown p hp
  have e := (N1 p (List.mem_append_right _ hp)).1
  simp only [List.mem_cons, List.not_mem_nil, or_false] at q
  rcases q with q | q
  ·rw [q, e1] at e; cases e; rw [c1]; decide
  ·rw [q, e2] at e; cases e; rw [c2]; decide
 ·exact fun mz1 news1 hz1 tk dr ⟨_, ⟨_, e⟩, k⟩ hJ F1 N1 => fin mz1 news1 hz1 tk dr (k _ _ (hI _ _ ho) e) hJ F1 N1
end
end
-- DictDisp
section
open PySem PySem.W PyProof.Rows PySem.Calls
section
variable {prog : Program} {w : World} {A : Around} {E : Value -> Shared -> Prop} {s : Shared} {env : Env} {K : Type} [DecidableEq K] {dk : DKind prog w K}
noncomputable abbrev dict0 : Obj := { cls := .type "dict", data := .dict #[] }
inductive DictPut (dk : DKind prog w K) (D : Addr) (Q : Value -> Shared -> Prop) (kv vv : Value) (sz2 : Shared) : Prop
 | mk : ∀ k, DictAt dk sz2.heap D [] -> dk.is sz2.heap k kv -> (∀ h' tk, DictAt dk h' D [(k, vv)] -> Heap.SameBut D sz2.heap h' -> Q (.ref D) { sz2 with heap := h', toks := tk }) -> DictPut dk D Q kv vv sz2
theorem eval_dict1 {ke ve : Expr} {pos : Pos} {Q : Value -> Shared -> Prop} (hu : A.units < cLine)
  (h : wpAny (model prog w) A (eval ke env) (fun kv sz1 => wpAny (model prog w) A (eval ve env) (DictPut dk s.heap.objs.size Q kv) E sz1) E { s with heap := s.heap.push dict0 }) :
  wpAny (model prog w) A (eval (.Dict [some ke] [ve] pos) env) Q E s := by
 rw [arm_eval_Dict, show (evalEachOpt [some ke] env).zip ((evalEach [ve] env).map fun v => do let x ← v; standAt pos; pure x) = [(eval ke env, (do let x ← eval ve env; standAt pos; pure x : Sem Value))].map fun p => (some p.1, p.2) from rfl, dictDisplay_pairs _ (by simp) (by simp)]
 refine wpAny_bind (wpAny_standAt (wpAny_bind ?_))
 unfold subDict
 refine wpAny_bind (wpAny_alloc ?_)
 refine wpAny_bind (wpAny_holding ?_)
 rw [if_pos (by simp)]
 refine wpAny_bind (evalPairs_cons (wpAny_mono h (fun kv sz1 hz1 => ?_) fun _ _ e => e))
 refine wpAny_bind (wpAny_mono hz1 (fun vv sz2 hzz2 => wpAny_bind (wpAny_standAt (wpAny_pure ?_))) fun _ _ e => e)
 refine evalPairs_nil ?_
 obtain ⟨k, D, hk, hQ⟩ := hzz2
 refine wpAny_holding ?_
 rw [List.forIn_cons]
 refine wpAny_bind (wpAny_bind (wpAny_bind (dictSet_at D hu hk (Nat.zero_le _) fun h' tk D' hs => wpAny_pure ?_)))
 dsimp only
 rw [List.forIn_nil]
 exact wpAny_pure (wpAny_pure (wpAny_pure (wpAny_pure (hQ h' tk (by simpa [setV] using D') hs))))
end
end
-- Tac2
section
open PySem PySem.W PyProof.Rows PySem.Calls
noncomputable def Joined (J : Shared -> Prop) (fl : Flow) (s' : Shared) : Prop := fl = .next /\ J s'
theorem Joined.mk {J : Shared -> Prop} {s' : Shared} (h : J s') : Joined J .next s' := ⟨rfl, h⟩
theorem seq_join {prog : Program} {w : World} {A : Around} {env : Env} {st : Stmt} {rest : List Stmt} {s : Shared} {Q : Flow -> Shared -> Prop} {E : Value -> Shared -> Prop} (J : Shared -> Prop)
  (h1 : wpAny (model prog w) A (exec st env) (fun fl s' => Joined J fl s') E s) (h2 : ∀ s', J s' -> wpAny (model prog w) A (execs rest env) Q E s') : wpAny (model prog w) A (execs (st :: rest) env) Q E s :=
 wpAny_execs_cons (wpAny_mono h1 (fun fl s' h => by obtain ⟨rfl, hj⟩ := h; exact h2 s' hj) fun _ _ e => e)
theorem name_map {g h : Heap} {L : Addr} {m : Str -> Option Value} (_ : Fr g L h m) : ∃ m', m' = m := ⟨m, rfl⟩
end
-- MetW
section
open PySem PySem.W PyProof.Rows PySem.Calls
theorem off_MetW : True := by
 w_top off
 trivial
noncomputable def StepOk (wd : List Nat) (k p q : Int) : Prop := (k = 4 /\ q = p) ∨ (k ≠ 4 /\ p < wd.length /\ q = p + 1 /\ (k = 3 ∨ wd[p.toNat]? = some (97 + k.toNat)))
noncomputable def Succ (rows : List (List Int)) (wd : List Nat) (a p b q : Int) : Prop := ∃ k : Int, [a, k, b] ∈ rows /\ StepOk wd k p q
inductive Met (rows : List (List Int)) (wd : List Nat) : Int -> Int -> Prop
 | init : Met rows wd 0 0
 | step {a p b q : Int} : Met rows wd a p -> Succ rows wd a p b q -> Met rows wd b q
noncomputable def pairs28 : List (List Int) := (List.range 4).flatMap fun a : Nat => (List.range 7).map fun p : Nat => [(a : Int), (p : Int)]
theorem nat_of {i : Int} {n : Nat} (h0 : 0 ≤ i) (h1 : i < n) : ∃ j : Nat, i = j /\ j < n := ⟨i.toNat, (Int.toNat_of_nonneg h0).symm, (Int.toNat_lt h0).mpr h1⟩
theorem charAt_at {x : Str} {i : Int} (h0 : 0 ≤ i) (h1 : i < x.cps.size) : Txt.charAt x i = x.cps[i.toNat]? := by
 have e : seqIndex? i x.length = some i.toNat := by
  unfold seqIndex?
  have h2 : ¬ i < 0 := by lia
  have h3 : i < (x.length : Nat) := h1
  simp [h0, h2, h3]
 unfold Txt.charAt
 rw [e]; rfl
theorem charAt_some {x : Str} {i : Int} (h0 : 0 ≤ i) (h1 : i < x.cps.size) : (Txt.charAt x i).isSome = true := by
 rw [charAt_at h0 h1, Array.getElem?_eq_getElem ((Int.toNat_lt h0).mpr h1)]; rfl
theorem fit6 {i : Int} {n : Nat} (h0 : 0 ≤ i) (h : i < n) (hn : n ≤ 6) : -9223372036854775808 ≤ i /\ i < 9223372036854775808 := by lia
theorem lt3 {k : Int} (h : k < 5) (h4 : k ≠ 4) (h3 : k ≠ 3) : k < 3 := by lia
theorem abc_at {k : Int} (h0 : 0 ≤ k) (h1 : k < 3) : Txt.item (Str.ofString "abc") k = ⟨#[97 + k.toNat]⟩ := by
 refine x12 (nat_of (n := 3) h0 h1) fun j e hj => ?_
 subst e
 exact (by decide +kernel : ∀ j < 3, Txt.item (Str.ofString "abc") (j : Nat) = ⟨#[97 + (j : Int).toNat]⟩) j hj
theorem abc_eq {x : Str} {i k : Int} (h0 : 0 ≤ i) (h1 : i < x.cps.size) (k0 : 0 ≤ k) (k1 : k < 3) : (Txt.item (Str.ofString "abc") k == Txt.item x i) = true ↔ x.cps.toList[i.toNat]? = some (97 + k.toNat) := by
 have hi : i.toNat < x.cps.size := (Int.toNat_lt h0).mpr h1
 rw [abc_at k0 k1, beq_iff_eq]
 unfold Txt.item
 rw [charAt_at h0 h1, Array.getElem?_eq_getElem hi, List.getElem?_eq_getElem (by simpa using hi)]
 simp only [Option.getD_some, Str.mk.injEq, Array.getElem_toList, Option.some.injEq]
 constructor
 ·intro e
  have := congrArg Array.toList e
  simp at this
  exact this.symm
 ·intro e
  rw [e]
noncomputable abbrev WkSt (prog : Program) (w : World) (g sh : Heap) (L D : Addr) (fr : List (Addr × Obj)) (arr : List Value) (Ms : List (List Int)) (lm : List (List Int × Value)) (h : Heap) (m : Str -> Option Value) : Prop :=
 Hs g sh L fr (fun h => DictAt (dTup prog w) h D lm /\ TupsAre h arr Ms) (fun b => b = D) h m
theorem Part.wk {prog : Program} {w : World} {D : Addr} {arr : List Value} {Ms : List (List Int)} {lm : List (List Int × Value)} : Part (fun h => DictAt (dTup prog w) h D lm /\ TupsAre h arr Ms) (fun b => b = D) :=
 (Part.dict.and Part.tups).imp fun b => ⟨fun q => q.elim id False.elim, .inl⟩
structure WkOk (rows : List (List Int)) (wd : List Nat) (Ms : List (List Int)) : Prop where
 met : ∀ x ∈ Ms, ∃ a p, x = [a, p] /\ Met rows wd a p /\ (0 ≤ a /\ a < 4) /\ 0 ≤ p /\ p ≤ wd.length
 nd : Ms.Nodup
 zero : [0, 0] ∈ Ms
theorem WkOk.le {rows : List (List Int)} {wd : List Nat} {Ms : List (List Int)} (o : WkOk rows wd Ms) (h : wd.length ≤ 6) : Ms.length ≤ 28 :=
 nodup_le (l2 := pairs28) o.nd fun x hx => by
  refine x25 (o.met x hx) fun a p q91 _ q92 p0 p1 => ?_; subst q91; refine x02 q92 fun a0 a1 => ?_
  refine x12 (nat_of (n := 4) a0 a1) fun i ei hi => x12 (nat_of (n := 7) p0 (Int.lt_add_one_of_le (Int.le_trans p1 (Int.ofNat_le.mpr h)))) fun j ej hj => ?_
  subst ei
  subst ej
  exact List.mem_flatMap.mpr ⟨i, List.mem_range.mpr hi, List.mem_map.mpr ⟨j, List.mem_range.mpr hj, rfl⟩⟩
theorem StepOk.fn {wd : List Nat} {k p q q' : Int} (h : StepOk wd k p q) (h' : StepOk wd k p q') : q = q' := by
 rcases h with ⟨a, b⟩ | ⟨a, -, b, -⟩ <;> rcases h' with ⟨a', b'⟩ | ⟨a', -, b', -⟩ <;> lia
theorem wk_old {rows : List (List Int)} {wd : List Nat} {Ms : List (List Int)} {j : Nat} {a a2 pl k b : Int} (hsj : ∀ k b q, [a, k, b] ∈ rows.take j -> StepOk wd k pl q -> [b, q] ∈ Ms) (er : rows[j]? = some [a2, k, b])
  (h : a2 = a -> ∀ q, StepOk wd k pl q -> [b, q] ∈ Ms) : ∀ k b q, [a, k, b] ∈ rows.take (j + 1) -> StepOk wd k pl q -> [b, q] ∈ Ms := fun k' b' q' hm hs => by
 rw [List.take_add_one, er] at hm
 rcases List.mem_append.mp hm with hm | hm
 ·exact hsj k' b' q' hm hs
 ·simp at hm
  refine x03 hm fun q93 q94 q95 => ?_; subst q93; subst q94; subst q95
  exact h rfl q' hs
theorem wk_new {rows : List (List Int)} {wd : List Nat} {Ms : List (List Int)} {i j : Nat} {a pl k b q : Int} (ok : WkOk rows wd Ms) (done : ∀ j, j < i -> ∀ a p, Ms[j]? = some [a, p] -> ∀ b q, Succ rows wd a p b q -> [b, q] ∈ Ms) (e1 : Ms[i]? = some [a, pl])
  (hsj : ∀ k b q, [a, k, b] ∈ rows.take j -> StepOk wd k pl q -> [b, q] ∈ Ms) (er : rows[j]? = some [a, k, b]) (hok : StepOk wd k pl q) (hb : 0 ≤ b /\ b < 4) (hn : [b, q] ∉ Ms) :
  WkOk rows wd (Ms ++ [[b, q]]) /\ (∀ j, j < i -> ∀ a p, (Ms ++ [[b, q]])[j]? = some [a, p] -> ∀ b' q', Succ rows wd a p b' q' -> [b', q'] ∈ Ms ++ [[b, q]]) /\ (Ms ++ [[b, q]])[i]? = some [a, pl] /\
   ∀ k b' q', [a, k, b'] ∈ rows.take (j + 1) -> StepOk wd k pl q' -> [b', q'] ∈ Ms ++ [[b, q]] := by
 have hi : i < Ms.length := (List.getElem?_eq_some_iff.mp e1).1
 refine x25 (ok.met _ (List.mem_of_getElem? e1)) fun a0 p0 e0 hm ha hp0 hp1 => ?_
 cases e0
 refine ⟨⟨fun x hx => ?_, ?_, List.mem_append_left _ ok.zero⟩, fun j' hj' a' p' e' b' q' hs => ?_, by rw [List.getElem?_append_left hi]; exact e1, wk_old (fun k' b' q' h1 h2 => List.mem_append_left _ (hsj k' b' q' h1 h2)) er fun _ q' h => ?_⟩
 ·rcases List.mem_append.mp hx with hx | hx
  ·exact ok.met x hx
  ·simp at hx
   refine ⟨b, q, hx, .step hm ⟨k, List.mem_of_getElem? er, hok⟩, hb, ?_⟩
   rcases hok with ⟨_, e⟩ | ⟨_, h1, e, _⟩ <;> lia
 ·rw [List.nodup_append]
  exact ⟨ok.nd, by simp, fun x hx y hy e => by simp at hy; exact hn (hy ▸ e ▸ hx)⟩
 ·rw [List.getElem?_append_left (Nat.lt_trans hj' hi)] at e'
  exact List.mem_append_left _ (done j' hj' a' p' e' b' q' hs)
 ·rw [← hok.fn h]; simp
theorem wk_done {rows : List (List Int)} {wd : List Nat} {Ms : List (List Int)} {i n : Nat} {a pl : Int} (done : ∀ j, j < i -> ∀ a p, Ms[j]? = some [a, p] -> ∀ b q, Succ rows wd a p b q -> [b, q] ∈ Ms) (e1 : Ms[i]? = some [a, pl])
  (hsj : ∀ k b q, [a, k, b] ∈ rows.take n -> StepOk wd k pl q -> [b, q] ∈ Ms) (hn : rows.length ≤ n) : ∀ j, j < i + 1 -> ∀ a p, Ms[j]? = some [a, p] -> ∀ b q, Succ rows wd a p b q -> [b, q] ∈ Ms := fun j hj a' p' e' b' q' hs => by
 rcases Nat.lt_succ_iff_lt_or_eq.mp hj with h | rfl
 ·exact done j h a' p' e' b' q' hs
 ·rw [e1] at e'
  cases e'
  refine x12 hs fun k hk hs => ?_
  exact hsj k b' q' (by rw [List.take_of_length_le hn]; exact hk) hs
theorem Hs.headL {g sh h h' : Heap} {L l : Addr} {o o' : Obj} {tl : List (Addr × Obj)} {Φ Φ' : Heap -> Prop} {Pf : Addr -> Prop} {m : Str -> Option Value} (S : Hs g sh L ((l, o) :: tl) Φ Pf h m) (hs : Heap.SameBut l h h') (ho : h'.get? l = some o') (nt' : ¬ TupO o') (hl : l ∉ tl.map (·.1)) (part' : Part Φ' Pf) (phi' : Φ' h') : Hs g sh L ((l, o') :: tl) Φ' Pf h' m := by
 refine x02 (news_hit (pre := []) S.F S.N (by omega_side) (fun p hp e => hl (e ▸ List.mem_map_of_mem hp)) hs ho) fun F' N' => ?_
 exact ⟨⟨F', N', fun q hq => (List.mem_cons.mp hq).elim (fun e => e ▸ nt') fun h => S.nt q (.tail _ h)⟩, part', phi', fun b p => S.as b p⟩
theorem WkOk.all {rows : List (List Int)} {wd : List Nat} {Ms : List (List Int)} (o : WkOk rows wd Ms) (done : ∀ j, j < Ms.length -> ∀ a p, Ms[j]? = some [a, p] -> ∀ b q, Succ rows wd a p b q -> [b, q] ∈ Ms) {a p : Int} (h : Met rows wd a p) : [a, p] ∈ Ms := by
 induction h with
 | init => exact o.zero
 | step _ hs ih =>
  refine x11 (List.mem_iff_getElem?.mp ih) fun j hj => ?_
  exact done j (by have := List.getElem?_eq_some_iff.mp hj; exact this.1) _ _ hj _ _ hs
noncomputable def WkA (prog : Program) (w : World) (g : Heap) (s : Shared) (h2 : Heap) (l1 : Addr) (ar : Addr) (rows : List (List Int)) (word : Str) (tw : Tok) (n : Nat) (m : Str -> Option Value) (G9 : List (Addr × Obj) -> Prop) : Prop := ∀ (hX : Heap) (mX : Str -> Option Value) (arr : List Value) (cl : Nat) (Ms : List (List Int)) (lm : List (List Int × Value)) (i : Nat) (ta : Tok) (q0 : m (Str.ofString "arcs") = some (.ref ar)) (q1 : m (Str.ofString "word") = some (.str word tw)) (q2 : m (Str.ofString "met") = some (.ref l1)) (q3 : m (Str.ofString "seen") = some (.ref h2.objs.size)) (q4 : m (Str.ofString "at") = some (.int i ta)) (q5 : n = 28 - i) (q6 : i ≤ Ms.length) (q8 : WkSt prog w g s.heap s.heap.objs.size h2.objs.size [(l1, listO arr.toArray cl)] arr Ms lm hX mX) (q9 : lm.map Prod.fst = Ms) (q10 : WkOk rows word.cps.toList Ms) (q11 : ∀ j, j < i -> ∀ a p, Ms[j]? = some [a, p] -> ∀ b q, Succ rows word.cps.toList a p b q -> [b, q] ∈ Ms), G9 ([(l1, listO arr.toArray cl)] ++ allOf g s.heap.objs.size [l1] hX)
noncomputable def WkB (prog : Program) (w : World) (g : Heap) (s : Shared) (h2 : Heap) (l1 : Addr) (ar : Addr) (rows : List (List Int)) (word : Str) (tw : Tok) (hz9 : Heap) (i : Nat) (ta : Tok) (a : Int) (u1 : Tok) (pl : Int) (u2 : Tok) (j : Nat) (m : Str -> Option Value) (G9 : List (Addr × Obj) -> Prop) : Prop := ∀ (hX : Heap) (mX : Str -> Option Value) (own : List (Addr × Obj)) (arr : List Value) (cl : Nat) (Ms : List (List Int)) (lm : List (List Int × Value)) (q0 : m (Str.ofString "arcs") = some (.ref ar)) (q1 : m (Str.ofString "word") = some (.str word tw)) (q2 : m (Str.ofString "met") = some (.ref l1)) (q3 : m (Str.ofString "seen") = some (.ref h2.objs.size)) (q4 : m (Str.ofString "at") = some (.int i ta)) (q5 : m (Str.ofString "state") = some (.int a u1)) (q6 : m (Str.ofString "place") = some (.int pl u2)) (q8 : WkSt prog w g s.heap s.heap.objs.size h2.objs.size ([(l1, listO arr.toArray cl)] ++ own) arr Ms lm hX mX) (q9 : (hz9.objs.size ∈ own.map (·.1) ∨ hX.get? hz9.objs.size = none)) (q10 : lm.map Prod.fst = Ms) (q11 : WkOk rows word.cps.toList Ms) (q12 : (∀ j, j < i -> ∀ a p, Ms[j]? = some [a, p] -> ∀ b q, Succ rows word.cps.toList a p b q -> [b, q] ∈ Ms)) (q13 : Ms[i]? = some [a, pl]) (q14 : ∀ k b q, [a, k, b] ∈ rows.take j -> StepOk word.cps.toList k pl q -> [b, q] ∈ Ms), G9 ([(l1, listO arr.toArray cl)] ++ allOf g s.heap.objs.size (([(l1, listO arr.toArray cl)] ++ own).map (·.1)) hX)
noncomputable def WkC (prog : Program) (w : World) (g : Heap) (s : Shared) (h2 : Heap) (l1 : Addr) (ar : Addr) (word : Str) (tw : Tok) (i : Nat) (ta : Tok) (u1 : Tok) (pl : Int) (u2 : Tok) (a2 : Int) (k : Int) (b : Int) (own : List (Addr × Obj)) (arr : List Value) (cl : Nat) (Ms : List (List Int)) (lm : List (List Int × Value)) (G9 : Shared -> Prop) : Prop := ∀ (hX : Heap) (mX : Str -> Option Value) (tk : Nat) (dr : Drawn) (gv : Value) (q1 : mX (Str.ofString "arcs") = some (.ref ar)) (q2 : mX (Str.ofString "word") = some (.str word tw)) (q3 : mX (Str.ofString "met") = some (.ref l1)) (q4 : mX (Str.ofString "seen") = some (.ref h2.objs.size)) (q5 : mX (Str.ofString "at") = some (.int i ta)) (q6 : mX (Str.ofString "state") = some (.int a2 u1)) (q7 : mX (Str.ofString "place") = some (.int pl u2)) (q8 : mX (Str.ofString "goal") = some gv) (q9 : WkSt prog w g s.heap s.heap.objs.size h2.objs.size ([(l1, listO arr.toArray cl)] ++ own) arr Ms lm hX mX) (q10 : ((gv = .none /\ ∀ q, ¬ StepOk word.cps.toList k pl q) ∨ ∃ T q, gv = .ref T /\ IsTI hX [b, q] T /\ StepOk word.cps.toList k pl q)), G9 { s with heap := hX, toks := tk, drawn := dr }
variable {prog : Program} {w : World} {p : Program} {loose : List Str} {mean : ExcName -> Option Value} {mg mb : Str -> Option Value} {hz0 : Heap}
variable {s : Shared} {dp un : Nat} {fr : List Env} {gd : Option (List Code)} {R : Result -> Shared -> Prop}
theorem walks_c {ar : Addr} {arrv : List Value} {c : Nat} {rows : List (List Int)} {word : Str} {tw : Tok} (H : Base (hd.heap_1 w.params) p loose mean mg mb hz0) (hk : ∀ b o, hz0.get? b = some o -> s.heap.get? b = some o)
  (har : s.heap.get? ar = some (listO arrv.toArray c)) (hta : TupsAre s.heap arrv rows) (hrows : ∀ r ∈ rows, ∃ a k b : Int, r = [a, k, b] /\ (0 ≤ a /\ a < 4) /\ (0 ≤ k /\ k < 5) /\ 0 ≤ b /\ b < 4) (hlen : rows.length ≤ 8) (hw : word.cps.size ≤ 6)
  (hd1 : dp + 39 < recursionLimit) (hu : un + 160 < cLine)
  (hR : ∀ (h' : Heap) (tk : Nat) (dr : Drawn) (r : Addr) (arr : List Value) (c' : Nat) (Ms : List (List Int)), (∀ b o, s.heap.get? b = some o -> h'.get? b = some o) -> s.heap.get? r = none -> h'.get? r = some (listO arr.toArray c') -> TupsAre h' arr Ms ->
   (∀ x, x ∈ Ms ↔ ∃ a p, x = [a, p] /\ Met rows word.cps.toList a p) -> Ms.length ≤ 28 -> R (.ok (.ret (.ref r))) { s with heap := h', toks := tk, drawn := dr }) :
  codeAny (model prog w) (A0 dp un fr gd) (.call (.ref 351) ⟨[.ref ar, .str word tw], []⟩) R s := by
 have hN : ∀ q ∈ ([] : List (Addr × Obj)), s.heap.get? q.1 = some q.2 /\ hz0.get? q.1 = none := fun _ h => nomatch h
 k_dflt (apply enter; assumption; assumption; assumption; k_is; k_is; exact Nat.lt_of_le_of_lt (Nat.le_add_right _ _) (by assumption); exact BindsTo.of_eq rfl; exact locs rfl; exact rfl; exact rfl; exact rfl; decide; k_whole; intro _ _ _ _ _ _ _ _ _; (try dsimp only); (try k_fold))
 rename_i g hz1 Hg Hs Hk F N X T
 ((try dsimp only); repeat' ((fail_if_success with_reducible first | refine' gDict _ | refine' gLen _ | refine' gComp _ | refine' gAsg _ | refine' gNew _ | refine' gCmp _); kl_some))
 rename_i T0 hA l0 l1 hB hlt1 h2 Fz2 Nz2
 refine eval_dict1 (dk := dTup prog w) ?_ ?_
 ·o_norm
 have k23 : ∀ b o, h2.get? b = some o -> (h2.push dict0).get? b = some o := fun b o e => Heap.get?_push_of_some _ e
 have Fz3 := fr_stay Fz2 k23
 have Nz3 := news_cons (news_stay Nz2 k23) (Heap.get?_push_size h2 (o := dict0) rfl) (fresh_off Fz2 (fresh_size h2)).1 (fresh_off Fz2 (fresh_size h2)).2
 have sg : ∀ b o, s.heap.get? b = some o -> g.get? b = some o := fun b o e => Hg b o e (by omega_side)
 have sD : s.heap.get? h2.objs.size = none := none_sub (fun b o e => Fz2.keep _ _ (sg b o e)) (fresh_size h2)
 have sl1 : s.heap.get? l1 = none := none_sub sg (Nz2.fresh (o := W.listOf #[.ref T0] 0) (by k_mem))
 have ltl : l1 < h2.objs.size := Heap.lt_size (Nz2.get (a := l1) (o := W.listOf #[.ref T0] 0) (by k_mem))
 have ltT : T0 < h2.objs.size := Nat.lt_trans hlt1 ltl
 have hD2 : h2.objs.size ≠ sysModules := by simpa using Fz2.notModules (modules_low T.nolimit)
 have fr2 : h2.get? h2.objs.size = none := fresh_size h2
 generalize hp3 : h2.push dict0 = h3 at Fz3 Nz3 k23 ⊢
 o_steps
 rename_i D1 h4 F4 N4 hlt4
 refine ⟨[0, 0], ⟨hD2, #[], 0, N4.get (by k_mem), .nil, by simp⟩, ⟨_, rfl, ti_pair (a := 0) (b := 0) (N4.get (a := D1) (by k_mem)) rfl rfl⟩, fun h5 tk5 D5 hs5 => ?_⟩
 obtain ⟨o5, ho5⟩ : ∃ o5, h5.get? h2.objs.size = some o5 := let ⟨_, est, ept, e, _⟩ := D5; ⟨_, e⟩
 have o5t : ¬ TupO o5 := by
  obtain ⟨_, est, ept, e, _⟩ := D5
  rw [ho5] at e; cases e
  exact nt_cls (by show (Value.type "dict") ≠ _; decide)
 have n1 : l1 ≠ h2.objs.size := Nat.ne_of_lt ltl
 have n2 : T0 ≠ h2.objs.size := Nat.ne_of_lt ltT
 have n3 : D1 ≠ h2.objs.size := Nat.ne_of_gt hlt4.1
 refine x02 (news_hit (pre := [_]) F4 N4 (by simp [n3]) (by simp [n1, n2]) hs5 ho5) fun F5 N5 => ?_
 clear F4 N4
 dsimp only [List.cons_append, List.nil_append] at N5
 have Sz5 : WkSt prog w g s.heap s.heap.objs.size h2.objs.size [(l1, listO [Value.ref T0].toArray 0)] [.ref T0] [[0, 0]] [([0, 0], .bool true)] h5 _ := ⟨⟨F5, fun q hq => by
   simp only [List.mem_cons, List.not_mem_nil, or_false] at hq
   subst hq
   exact N5 _ (by k_mem), fun q hq => by
   simp only [List.mem_cons, List.not_mem_nil, or_false] at hq
   subst hq
   exact nt_cls (by show (Value.type "list") ≠ _; decide)⟩, Part.wk, ⟨D5, .cons (ti_pair (a := 0) (b := 0) (N5.get (a := T0) (by k_mem)) rfl rfl) .nil⟩, fun b e => by
   subst e
   exact ⟨⟨(N5 (h2.objs.size, o5) (by k_mem)).2.1, by simp [Ne.symm n1]⟩, sD⟩⟩
 clear N5 F5
 have F5 := Sz5.F
 have N5 := Sz5.all
 dsimp only [List.cons_append, List.nil_append] at N5
 o_steps
 (rename Fr _ _ _ _ => F6; rename News _ _ _ _ => N6; try rename Heap => hz6)
 have Sz6 := Sz5.same F6 N6 (by w_tidy)
 clear Sz5 N6
 refine While_my (nz0 := 28) (fun n m news _ => Chu (WkA prog w g s h2 l1 ar rows word tw n m) news) F6 Sz6.all ?_ ?_
 ·refine (fun _ k9 => k9 hz6 _ ([.ref T0]) 0 ([[0, 0]]) ([([0, 0], .bool true)]) 0 _ rfl rfl rfl rfl rfl rfl (by simp) Sz6 rfl (⟨fun x hx => ?_, by simp, by simp⟩) (fun j hj => absurd hj (Nat.not_lt_zero _)))
  simp at hx
  exact ⟨0, 0, hx, .init, by lia, by lia, by lia⟩
 rintro n mz1 news1 hz7 tkz7 dr7 F7 N7 hJ9
 revert F7 N7
 refine Chu.out hJ9 ?_
 clear hJ9
 rintro hX mX arr cl Ms lm i ta m1 m2 m3 m4 m5 rfl hle SX hlm ok done F7 N7
 refine whileMy_hide fun G hG => ?_
 have Sz7 := SX.same F7 N7 (fun q hq => hq)
 clear SX N7 F7
 have F7 := fr_put (Str.ofString "arcs") (fr_put (Str.ofString "word") (fr_put (Str.ofString "met") (fr_put (Str.ofString "seen") (fr_put (Str.ofString "at") Sz7.F m5) (by exact m4)) (by exact m3)) (by exact m2)) (by exact m1)
 have N7 := Sz7.all
 dsimp only [List.cons_append, List.nil_append] at N7
 o_steps
 have hal : arr.length = Ms.length := Sz7.phi.2.len
 have h28 : Ms.length ≤ 28 := ok.le (by simpa using hw)
 refine Calls.call_len_list (isList_listO (N7.get (by k_mem))) (by simp; lia) ?_
 o_steps
 rotate_left
 ·rename_i hni
  simp at hni
  exact hR hz7 _ dr7 l1 arr cl Ms (fun b o e => Sz7.F.keep _ _ (sg b o e)) sl1 (N7.get (by k_mem)) Sz7.phi.2 (fun x => ⟨fun hx => x23 (ok.met x hx) fun a p e hm _ => ⟨a, p, e, hm⟩, fun q85 => x22 q85 fun a p e hm => e ▸ ok.all (fun j hj => done j (by lia)) hm⟩) h28
 rename_i hi
 have hi' : i < arr.length := by simpa using hi
 refine x11 (⟨_, List.getElem?_eq_getElem hi'⟩ : ∃ vv, arr[i]? = some vv) fun vv hv => ?_
 refine x23 (Sz7.phi.2.get i vv hv) fun T9 kx e1 q91 TI => ?_; subst q91
 refine x24 (ok.met kx (List.mem_of_getElem? e1)) fun a pl q92 hmet ha hpl => ?_; subst q92
 refine x21 (pair_of TI) fun u1 u2 hT => ?_
 have hl7 := isList_listO (N7.get (a := l1) (o := listO arr.toArray cl) (by k_mem))
 refine tail_any hl7.typeIs slot_list_getitem.lookup (wpAny_getItem_list hl7 (x := .ref T9) (by lia) (by lia) (by simpa using hv) ?_) (by with_unfolding_all rfl)
 refine assign_pair rfl hT fun h8 hk8 => ?_
 have Sz8 := Sz7.stay' hk8
 clear Sz7 N7 F7 hl7
 have F8 := fr_put (Str.ofString "arcs") (fr_put (Str.ofString "word") (fr_put (Str.ofString "met") (fr_put (Str.ofString "seen") (fr_put (Str.ofString "at") Sz8.F m5) (by exact m4)) (by exact m3)) (by exact m2)) (by exact m1)
 have N8 := Sz8.all
 dsimp only [List.cons_append, List.nil_append] at N8
 o_steps
 (rename Fr _ _ _ _ => Fz9; rename News _ _ _ _ => Nz9; try rename Heap => hz9)
 have Sz9 := Sz8.same Fz9 Nz9 (by w_tidy)
 clear Sz8 Fz9 Nz9
 have Fz9 := Sz9.F
 have Nz9 := Sz9.all
 dsimp only [List.cons_append, List.nil_append] at Nz9
 have gar : g.get? ar = some (listO arrv.toArray c) := sg _ _ har
 have hdA : ∃ o, g.get? ar = some o := ⟨_, gar⟩
 refine For_g (hs := fun _ => rfl) g ?_
 o_steps
 refine iter_tupsG (fun j m news => Chu (WkB prog w g s h2 l1 ar rows word tw hz9 i ta a u1 pl u2 j m) news) (Fz9.keep _ _ gar) ?_ ?_ ?_ rfl Fz9 (news := [(l1, listO arr.toArray cl)] ++ allOf g s.heap.objs.size (([(l1, listO arr.toArray cl)] ++ ([] : List (Addr × Obj))).map (·.1)) hz9) (by rw [List.append_nil]; exact Sz9.all) ?_ ?_ ?_
 ·intro v hv
  refine x11 (List.mem_iff_getElem?.mp hv) fun q hq => ?_
  refine x23 (hta.get q v hq) fun b _ _ e _ => ?_
  exact ⟨b, e⟩
 ·exact fun q => absurd (q ▸ Heap.lt_size har) (Nat.lt_irrefl _)
 ·intro q hq e
  have := (Sz9.all q (by simpa using hq)).2.2
  rw [e, gar] at this; cases this
 ·exact (fun _ k9 => k9 hz9 _ ([]) arr cl Ms lm rfl rfl rfl rfl rfl rfl rfl (by rw [List.append_nil]; exact Sz9) (.inr (fresh_size _)) hlm ok done e1 (fun k b q hq => by simp at hq))
 ·clear Sz9 Fz9 Nz9 hlm ok e1 done hal h28 hv hi' hi TI hT
  clear m1 m2 m3 m4 m5
  rintro j T2 mz2 news2 hz10 tk10 dr10 own hj hJ9
  refine Chu.out hJ9 ?_
  clear hJ9
  rintro hX mX own' arr cl Ms lm m1 m2 m3 m4 m5 m6 m7 SX hIX hlm ok done e1 hsj hav hown hIo _ F10 N10
  refine stepG_hide fun G hG => ?_
  have hown' : ∀ p ∈ own, p.1 = hz9.objs.size /\ p.2.cls ≠ .type "tuple" := by
   intro p hp
   refine ⟨?_, (hown p hp).2⟩
   have q := (hown p hp).1
   simp only [List.mem_cons, List.not_mem_nil, or_false] at q
   rcases q with q | q
   ·exact q
   ·have := (N10 p (List.mem_append_right _ hp)).2.2
    rw [q, gar] at this; cases this
  have hIo' : hz9.objs.size ∈ own.map (·.1) := x11 (hIo) fun o ho => List.mem_map.mpr ⟨_, ho, rfl⟩
  have hlI : l1 ≠ hz9.objs.size := fun e => by
   have := hav _ (List.mem_append_left _ (.head _))
   simp [e] at this
  have S10 := SX.turn F10 N10 hown' hIX
  clear N10 F10 SX hIX hav hown hIo
  refine x23 ((hta.keep (h' := hz10) fun b o e _ => S10.F.keep _ _ (sg b o e)).get j _ (by simpa using hj)) fun b3 kx er e TI => ?_
  cases e
  refine x34 (hrows kx (List.mem_of_getElem? er)) fun a2 k b q93 ha2 hk2 hb2 => ?_; subst q93
  refine x31 (three_of TI) fun t1 t2 t3 hT3 => ?_
  refine assign_three rfl hT3 fun h11 hk11 => ?_
  have S11 := S10.stay' hk11
  clear S10
  have F11 := fr_put (Str.ofString "arcs") (fr_put (Str.ofString "word") (fr_put (Str.ofString "met") (fr_put (Str.ofString "seen") (fr_put (Str.ofString "at") (fr_put (Str.ofString "state") (fr_put (Str.ofString "place") S11.F m7) (by exact m6)) (by exact m5)) (by exact m4)) (by exact m3)) (by exact m2)) (by exact m1)
  have N11 := S11.all
  dsimp only [List.cons_append, List.nil_append] at N11
  ((try dsimp only); repeat' ((fail_if_success with_reducible refine' gIf _); kl_some))
  refine wpAny_execs_cons ?_
  ((try dsimp only); repeat' ((fail_if_success with_reducible refine' gIf _); kl_some))
  ·try dsimp only
   have ea : a2 = a := by first | assumption | (simp at *; assumption)
   subst ea
   (rename Fr _ _ _ _ => F12; rename News _ _ _ _ => N12; try rename Heap => hz12)
   have S12 := S11.same F12 N12 (by w_tidy)
   clear S11
   refine seq_join (fun s' => Chu (WkC prog w g s h2 l1 ar word tw i ta u1 pl u2 a2 k b own arr cl Ms lm) s') ?_ ?_
   ·have F12 := S12.F
    have N12 := S12.all
    dsimp only [List.cons_append, List.nil_append] at N12
    o_steps
    ·(rename Fr _ _ _ _ => F13; rename News _ _ _ _ => N13; try rename Heap => hz13)
     have S13 := S12.same F13 N13 (by w_tidy)
     exact ⟨rfl, fun _ k9 => k9 hz13 _ _ _ _ rfl rfl rfl rfl rfl rfl rfl rfl S13 (.inr ⟨_, pl, rfl, ti_pair (a := b) (b := pl) (N13.get (by k_mem)) rfl rfl, .inl ⟨by assumption, rfl⟩⟩)⟩
    have hk4 : ¬ k = 4 := by assumption
    refine PyProof.Rows.SBL.len (Int.lt_of_le_of_lt (Int.ofNat_le.mpr hw) (by decide)) ?_
    o_steps
    ·(rename Fr _ _ _ _ => F13; rename News _ _ _ _ => N13; try rename Heap => hz13)
     have S13 := S12.same F13 N13 (by w_tidy)
     have hlt : pl < word.cps.size := by assumption
     exact ⟨rfl, fun _ k9 => k9 hz13 _ _ _ _ rfl rfl rfl rfl rfl rfl rfl rfl S13 (.inr ⟨_, pl + 1, rfl, ti_pair (a := b) (b := pl + 1) (N13.get (by k_mem)) rfl rfl, .inr ⟨hk4, by simpa using hlt, rfl, .inl (by assumption)⟩⟩)⟩
    ·have hlt : pl < word.cps.size := by assumption
     have hk3 : k ≠ 3 := by assumption
     have hkl : k < ((3 : Nat) : Int) := lt3 hk2.2 hk4 hk3
     have hkg : -((3 : Nat) : Int) ≤ k := Int.le_trans (by decide) hk2.1
     refine tail_any (typeIs_str _ _ _) PySem.F.slot_str_getitem.lookup (SB.getItem (x := word) (i := pl) ?_ (charAt_some hpl.1 hlt) ?_) (by with_unfolding_all rfl)
     ·unfold fitsSsize
      simp
      exact fit6 hpl.1 hlt hw
     o_steps
     ·(rename Fr _ _ _ _ => F13; rename News _ _ _ _ => N13; try rename Heap => hz13)
      have S13 := S12.same F13 N13 (by w_tidy)
      have hab : (Txt.item (Str.ofString "abc") k == Txt.item word pl) = true := by assumption
      exact ⟨rfl, fun _ k9 => k9 hz13 _ _ _ _ rfl rfl rfl rfl rfl rfl rfl rfl S13 (.inr ⟨_, pl + 1, rfl, ti_pair (a := b) (b := pl + 1) (N13.get (by k_mem)) rfl rfl, .inr ⟨hk4, by simpa using hlt, rfl, .inr ((abc_eq hpl.1 hlt hk2.1 (lt3 hk2.2 hk4 hk3)).mp hab)⟩⟩)⟩
     ·have hab : (Txt.item (Str.ofString "abc") k == Txt.item word pl) = false := by assumption
      refine ⟨rfl, fun _ k9 => k9 hz12 _ _ _ _ rfl rfl rfl rfl rfl rfl rfl rfl S12 (.inl ⟨rfl, fun q hq => hq.elim (fun q => hk4 q.1) fun q => ?_⟩)⟩
      rcases q.2.2.2 with e | e
      ·exact hk3 e
      ·rw [(abc_eq hpl.1 hlt hk2.1 (lt3 hk2.2 hk4 hk3)).mpr e] at hab
       cases hab
    ·have hnlt : ¬ pl < word.cps.size := by assumption
     exact ⟨rfl, fun _ k9 => k9 hz12 _ _ _ _ rfl rfl rfl rfl rfl rfl rfl rfl S12 (.inl ⟨rfl, fun q hq => hq.elim (fun q => hk4 q.1) fun q => hnlt (by simpa using q.2.1)⟩)⟩
   ·clear S12 F12 N12 m1 m2 m3 m4 m5 m6 m7
    rintro s' q80; refine Chu.out q80 ?_; rintro hX mX tk dr gv m1 m2 m3 m4 m5 m6 m7 m8 S13 hgv
    have F13 := fr_put (Str.ofString "arcs") (fr_put (Str.ofString "word") (fr_put (Str.ofString "met") (fr_put (Str.ofString "seen") (fr_put (Str.ofString "at") (fr_put (Str.ofString "state") (fr_put (Str.ofString "place") (fr_put (Str.ofString "goal") S13.F m8) (by exact m7)) (by exact m6)) (by exact m5)) (by exact m4)) (by exact m3)) (by exact m2)) (by exact m1)
    have N13 := S13.all
    dsimp only [List.cons_append, List.nil_append] at N13
    rcases hgv with ⟨rfl, hno⟩ | ⟨Tg, q, rfl, TIg, hok⟩
    ·o_steps
     exact hG hX _ _ _ _ F13 S13.toLed.endN (S13.toLed.endA2 hIo' (by simp [hlI]) hdA) (fun _ k9 => k9 hX _ own arr cl Ms lm rfl rfl rfl rfl rfl rfl rfl S13 (.inl hIo') hlm ok done e1 (wk_old hsj er fun _ q hq => absurd hq (hno q)))
    ·o_steps
     have hl28 : lm.length ≤ 28 := by
      have := ok.le (by simpa using hw)
      rw [← hlm] at this
      simpa using this
     refine notIn_at (dk := dTup prog w) (k := [b, q]) S13.phi.1 ?_ ⟨Tg, rfl, TIg⟩ fun tk14 => ?_
     ·o_norm
     by_cases hmem : [b, q] ∈ lm.map Prod.fst
     ·simp only [hmem, decide_true, Bool.not_true]
      o_steps
      exact hG hX _ _ _ _ F13 S13.toLed.endN (S13.toLed.endA2 hIo' (by simp [hlI]) hdA) (fun _ k9 => k9 hX _ own arr cl Ms lm rfl rfl rfl rfl rfl rfl rfl S13 (.inl hIo') hlm ok done e1 (wk_old hsj er fun _ q' hq => by rw [← hok.fn hq, ← hlm]; exact hmem))
     simp only [hmem, decide_false, Bool.not_false]
     o_steps
     generalize hv1 : Value.bool true = v1
     refine setItem_at (dk := dTup prog w) (k := [b, q]) (v := v1) S13.phi.1 ?_ ⟨Tg, rfl, TIg⟩ (by rw [sizeLine_eq]; lia) fun h14 tk14 D14 hs14 => ?_
     ·o_norm
     rw [show setV lm [b, q] v1 = lm ++ [([b, q], v1)] by unfold setV; rw [if_neg hmem]] at D14
     obtain ⟨oD, hoD, cD⟩ : ∃ oD, hX.get? h2.objs.size = some oD /\ oD.cls ≠ .type "tuple" := by
      obtain ⟨_, est, ept, e, _⟩ := S13.phi.1
      exact ⟨_, e, by show (Value.type "dict") ≠ _; decide⟩
     have tk14' : TupKeep hX h14 := TupKeep.of_same hs14 hoD cD
     have S14 : WkSt prog w g s.heap s.heap.objs.size h2.objs.size ([(l1, listO arr.toArray cl)] ++ own) arr Ms (lm ++ [([b, q], v1)]) h14 mX :=
      S13.change (fun b o n e => (hs14.2 b n).trans e) (fun b e => .inl e) Part.wk ⟨D14, S13.phi.2.keep tk14'⟩ (fun b e => none_sub Hs e) (fun b e => none_sub (fun b o e => S13.F.keep _ _ (sg b o e)) e)
     have TI14 := TIg.tk tk14'
     clear S13 F13 N13 TIg D14
     have F14 := fr_put (Str.ofString "arcs") (fr_put (Str.ofString "word") (fr_put (Str.ofString "met") (fr_put (Str.ofString "seen") (fr_put (Str.ofString "at") (fr_put (Str.ofString "state") (fr_put (Str.ofString "place") (fr_put (Str.ofString "goal") S14.F m8) (by exact m7)) (by exact m6)) (by exact m5)) (by exact m4)) (by exact m3)) (by exact m2)) (by exact m1)
     have N14 := S14.all
     dsimp only [List.cons_append, List.nil_append] at N14
     try dsimp only
     o_steps
     have hal : arr.length = Ms.length := S14.phi.2.len
     have h28 : Ms.length ≤ 28 := ok.le (by simpa using hw)
     refine append_listO (l := arr) (v := .ref Tg) (c := cl) ?_ ?_ fun h15 c15 hs15 ho15 => ?_
     ·exact N14.get (by k_mem)
     ·rw [sizeLine_eq]; lia
     have hlo : l1 ∉ own.map (·.1) := fun hm => by
      refine x12 (List.mem_map.mp hm) fun p hp e => ?_
      exact hlI (e ▸ (hown' p hp).1)
     have tk15 : TupKeep h14 h15 := TupKeep.of_same hs15 (S14.N (l1, listO arr.toArray cl) (by omega_side)).1 (by show (Value.type "list") ≠ _; decide)
     have S15 : WkSt prog w g s.heap s.heap.objs.size h2.objs.size ([(l1, listO (arr ++ [Value.ref Tg]).toArray c15)] ++ own) (arr ++ [.ref Tg]) (Ms ++ [[b, q]]) (lm ++ [([b, q], v1)]) h15 mX :=
      Mine.Hs.headL S14 hs15 ho15 (nt_cls (by show (Value.type "list") ≠ _; decide)) hlo Part.wk ⟨S14.phi.1.keep (fun o e => (hs15.2 _ (fun q => absurd (S14.as h2.objs.size rfl).1.2 (by simp [q]))).trans e) tk15, (S14.phi.2.append (.cons TI14 .nil)).keep tk15⟩
     clear S14 F14 N14 TI14
     have F15 := fr_put (Str.ofString "arcs") (fr_put (Str.ofString "word") (fr_put (Str.ofString "met") (fr_put (Str.ofString "seen") (fr_put (Str.ofString "at") (fr_put (Str.ofString "state") (fr_put (Str.ofString "place") (fr_put (Str.ofString "goal") S15.F m8) (by exact m7)) (by exact m6)) (by exact m5)) (by exact m4)) (by exact m3)) (by exact m2)) (by exact m1)
     have N15 := S15.all
     dsimp only [List.cons_append, List.nil_append] at N15
     o_steps
     refine x04 (wk_new ok done e1 hsj er hok hb2 (by rw [← hlm]; exact hmem)) fun p1 p2 p3 p4 => ?_
     exact hG h15 _ _ _ _ F15 S15.toLed.endN (S15.toLed.endA2 hIo' (by simp [hlI]) hdA) (fun _ k9 => k9 h15 _ own _ c15 _ _ rfl rfl rfl rfl rfl rfl rfl S15 (.inl hIo') (by simp [hlm]) p1 p2 p3 p4)
  ·(rename Fr _ _ _ _ => F12; rename News _ _ _ _ => N12; try rename Heap => hz12)
   have S12 := S11.same F12 N12 (by w_tidy)
   have hne : a2 ≠ a := by assumption
   exact hG hz12 _ _ _ _ F12 S12.toLed.endN (S12.toLed.endA2 hIo' (by simp [hlI]) hdA) (fun _ k9 => k9 hz12 _ own arr cl Ms lm rfl rfl rfl rfl rfl rfl rfl S12 (.inl hIo') hlm ok done e1 (wk_old hsj er fun e => absurd e hne))
 ·clear Sz9 Fz9 Nz9 hlm ok e1 done hal h28 hv hi' hi TI hT
  clear m1 m2 m3 m4 m5
  rintro mz2 news2 hz10 tk10 dr10 - hJ9
  refine Chu.out hJ9 ?_
  clear hJ9
  rintro hX mX own' arr cl Ms lm m1 m2 m3 m4 m5 m6 m7 SX hIX hlm ok done e1 hsj F10 N10
  have S10 := SX.leave F10 N10
  clear SX N10 F10
  have F10 := fr_put (Str.ofString "arcs") (fr_put (Str.ofString "word") (fr_put (Str.ofString "met") (fr_put (Str.ofString "seen") (fr_put (Str.ofString "at") S10.F m5) (by exact m4)) (by exact m3)) (by exact m2)) (by exact m1)
  have N10 := S10.all
  dsimp only [List.cons_append, List.nil_append] at N10
  try dsimp only
  o_steps
  (rename Fr _ _ _ _ => F11; rename News _ _ _ _ => N11; try rename Heap => hz11)
  have S11 := S10.same F11 N11 (by w_tidy)
  have h28 : Ms.length ≤ 28 := ok.le (by simpa using hw)
  have hi : i < Ms.length := (List.getElem?_eq_some_iff.mp e1).1
  refine hG hz11 _ _ _ _ (28 - (i + 1)) F11 S11.all (Nat.sub_lt_sub_left (Nat.lt_of_lt_of_le (List.getElem?_eq_some_iff.mp e1).1 (ok.le (by simpa using hw))) (Nat.lt_succ_self i)) (fun _ k9 => k9 hz11 _ arr cl Ms lm (i + 1) _ rfl rfl rfl rfl rfl rfl (by lia) S11 hlm ok (wk_done done e1 hsj (by simp [hta.len])))
end
-- IterSet
section
open PySem PySem.W PyProof.Rows PySem.Calls
section
variable {prog : Program} {w : World} {A : Around} {E : Value -> Shared -> Prop} {s : Shared} {env : Env} {g : Heap} {Q : Flow -> Shared -> Prop} {target : Expr} {body : List Stmt}
theorem iter_setG {a : Addr} {lim : Nat} {l : List Int} {m : Str -> Option Value} {news : List (Addr × Obj)} (J : Addr -> List Int -> Nat -> (Str -> Option Value) -> List (Addr × Obj) -> Prop) (S : SetAt (skInt prog w) lim g a l) (hh : A.handled = none)
  (F : Fr g env.locals s.heap m) (N : News g env.locals s.heap news) (h0 : ∀ I ks, s.heap.get? I = none -> J I ks 0 m news)
  (step : ∀ I ks i k tv mz1 news1 hz1 tk dr own, (∀ b, b ∈ ks ↔ b ∈ l) -> ks[i]? = some k -> J I ks i mz1 news1 -> (∀ p ∈ news1, p.1 ∉ [I, a]) -> (∀ p ∈ own, p.1 = I /\ p.2.cls ≠ .type "tuple") -> (∃ o, (I, o) ∈ own) -> Fr g env.locals hz1 mz1 -> News g env.locals hz1 (news1 ++ own) ->
   wpAny (model prog w) A (assign target env (.int k tv)) (fun _ sz3 => wpAny (model prog w) A (execs body env) (StepG g env.locals [I, a] own s (J I ks (i + 1)) Q) noE sz3) noE { s with heap := hz1, toks := tk, drawn := dr })
  (fin : ∀ I ks mz1 news1 hz1 tk dr, (∀ b, b ∈ ks ↔ b ∈ l) -> J I ks ks.length mz1 news1 -> Fr g env.locals hz1 mz1 -> News g env.locals hz1 news1 -> Q .next { s with heap := hz1, toks := tk, drawn := dr })
  (ht : ∀ (it v : Value), letOwnedTupleGo target it v = pure ()) :
  wpAny (model prog w) A (pyIter (.ref a)) (fun it sz2 => Chu2 (LoopG prog w A g env target body Q) it sz2) E s := by
 refine hidG fun GG hGG => ?_
 obtain ⟨o, es, t, ho, b, hK, hn, hok, hled, hpl⟩ := S
 refine hGG ?_
 have ho1 := F.keep _ _ ho
 refine pyIter_set ho1 b hled fun h' dr I arr fp St W => ?_
 obtain rfl := W.two (hpl rfl)
 refine x12 (ints_perm (W.perm.map _) (keys_ints hK)) fun ks hks hkp => ?_
 have hmem : ∀ b, b ∈ ks ↔ b ∈ l := fun b => hkp.mem_iff
 have hlen : arr.size = ks.length := by rw [← ints_len hks, List.length_map, Array.length_toList]
 have hIs : s.heap.get? I = none := W.self
 have hLI := fresh_off F hIs
 have hLa : env.locals ≠ a := fun q => by
  have := Nat.lt_of_lt_of_le (Heap.lt_size ho) F.above
  rw [q] at this; exact Nat.lt_irrefl _ this
 have hcl : ∀ (i : Nat) (h : Heap), St i h -> ∃ o : Obj, h.get? I = some o /\ o.cls ≠ .type "tuple" := fun i h st => x12 (W.icls i h st) fun o e c => ⟨o, e, by rw [c]; decide⟩
 refine (fun _ k9 => k9 I ([I, a]) arr.size _ St m news (J I ks) (WalkG.of_walks (W.walks A hh) hcl ht) ?_ hLI.2 ?_ W.start (fr_stay F W.keep) (news_stay N W.keep) (h0 I ks hIs) ?_ ?_)
 ·simp only [List.mem_cons, List.not_mem_nil, or_false, not_or]
  exact ⟨fun q => hLI.1 q.symm, hLa⟩
 ·intro p hp
  simp only [List.mem_cons, List.not_mem_nil, or_false, not_or]
  exact ⟨fun q => (by have := (N p hp).1; rw [q, hIs] at this; cases this), fun q => (by have := (N p hp).2.2; rw [q, ho] at this; cases this)⟩
 ·rintro i v mz1 news1 hz1 tk dr own hi q83 hJ hnf hown hm hst F1 N1; refine x12 q83 fun e he q84 => ?_; subst q84
  refine x12 (hcl _ _ hst) fun oI eI cI => ?_
  have hv : IntAt ks i e.2 := intAt_of (items := (arr.toList.map (·.2)).toArray) (by simpa using hks) i e.2 (by
   rw [← Array.getElem?_toList, List.toList_toArray, List.getElem?_map, Array.getElem?_toList, he]; rfl)
  refine hidG fun GG hGG => ?_
  refine x22 hv fun k tv hk ek => ?_
  refine hGG ?_
  rw [ek]
  refine step I ks i k tv mz1 news1 hz1 tk dr own hmem hk hJ hnf (fun p hp => ?_) ⟨oI, hm _ (by simp) _ eI hLI.2⟩ F1 N1
  have q := hown p hp
  have e1 := N1 p (List.mem_append_right _ hp)
  simp only [List.mem_cons, List.not_mem_nil, or_false] at q
  rcases q with q | q
  ·refine ⟨q, ?_⟩
   have e2 := e1.1
   rw [q, eI] at e2
   injection e2 with e2
   rw [← e2]; exact cI
  ·rw [q, ho] at e1; cases e1.2.2
 ·exact fun mz1 news1 hz1 tk dr _ hJ F1 N1 => fin I ks mz1 news1 hz1 tk dr hmem (hlen ▸ hJ) F1 N1
end
end
-- Rev
section
open PySem PySem.W PyProof.Rows PySem.Calls
theorem off_Rev : True := by
 w_top off
 trivial
structure NLay where
 dx : Addr
 t : Addr
 f : Addr
 t1 : Tok
 t2 : Tok
 t3 : Tok
 n : Nat
 l : List (Int × Value)
 dOf : Int -> Addr
 lOf : Int -> List (Str × Value)
 sOf : Int -> Str -> Addr
noncomputable abbrev NfaL (prog : Program) (w : World) (hz0 : Heap) (P : Addr -> Prop) (h : Heap) (x : Addr) (i : Int) (ti : Tok) (Ar : Int -> Str -> Int -> Prop) (Fin : Int -> Prop) (Z : NLay) : Prop := NfaMut prog w hz0 P h x i Ar Fin Z.dx Z.t Z.f Z.t1 Z.t2 Z.t3 ti Z.n Z.l Z.dOf Z.lOf Z.sOf
theorem Part.nfa {prog : Program} {w : World} {hz0 : Heap} {P : Addr -> Prop} {x : Addr} {i : Int} {ti : Tok} {Ar : Int -> Str -> Int -> Prop} {Fin : Int -> Prop} {Z : NLay} : Part (fun h => NfaL prog w hz0 P h x i ti Ar Fin Z) (fun b => P b ∨ b = x ∨ b = Z.dx) :=
 ⟨fun V k _ => V.move k, fun V p => by
  rcases p with p | rfl | rfl
  ·exact V.pa _ p
  ·exact ⟨_, V.ox⟩
  ·exact ⟨_, V.od⟩⟩
section
variable {prog : Program} {w : World} {hz0 g sh : Heap} {L : Addr} {fr : List (Addr × Obj)} {x : Addr} {i : Int} {ti : Tok} {Ar Ar' : Int -> Str -> Int -> Prop} {Fin Fin' : Int -> Prop} {Z Z' : NLay} {P P' : Addr -> Prop} {h h' : Heap} {m : Str -> Option Value}
noncomputable abbrev NvSt (prog : Program) (w : World) (hz0 g sh : Heap) (L : Addr) (fr : List (Addr × Obj)) (x : Addr) (i : Int) (ti : Tok) (Ar : Int -> Str -> Int -> Prop) (Fin : Int -> Prop) (Z : NLay) (P : Addr -> Prop) (h : Heap) (m : Str -> Option Value) : Prop :=
 Hs g sh L fr (fun h => NfaL prog w hz0 P h x i ti Ar Fin Z) (fun b => P b ∨ b = x ∨ b = Z.dx) h m
theorem nv_allD (S : NvSt prog w hz0 g sh L fr x i ti Ar Fin Z P h m) (hg : ∀ b, sh.get? b = none -> g.get? b = none) : News g L h ((x, instObj 229 Z.dx) :: (Z.dx, nfaD w Z.t Z.f (.int i ti) Z.t1 Z.t2 Z.t3 Z.n) :: (fr ++ allOf g L (fr.map (·.1)) h)) :=
 news_cons (news_cons S.all S.phi.od (S.as _ (.inr (.inr rfl))).1.1 (hg _ (S.as _ (.inr (.inr rfl))).2)) S.phi.ox (S.as _ (.inr (.inl rfl))).1.1 (hg _ (S.as _ (.inr (.inl rfl))).2)
theorem nv_change (S : NvSt prog w hz0 g sh L fr x i ti Ar Fin Z P h m) (k : ∀ b o, ¬ P b -> h.get? b = some o -> h'.get? b = some o) (hP : ∀ b, P' b -> P b ∨ h.get? b = none) (V : NfaL prog w hz0 P' h' x i ti Ar' Fin' Z') (hd : Z'.dx = Z.dx) (hg : ∀ b, sh.get? b = none -> g.get? b = none) (hsh : ∀ b, h.get? b = none -> sh.get? b = none) : NvSt prog w hz0 g sh L fr x i ti Ar' Fin' Z' P' h' m :=
 S.change (fun b o n e => k b o (fun q => n (.inl q)) e) (fun b q => by
  rw [hd] at q
  exact q.elim (fun q => (hP b q).elim (fun q => .inl (.inl q)) .inr) fun q => .inl (.inr q)) Part.nfa V hg hsh
end
noncomputable def RvA (prog : Program) (w : World) (hz0 : Heap) (g : Heap) (s : Shared) (x : Addr) (k : Int) (tf : Tok) (x2 : Addr) (fr3 : List (Addr × Obj)) (h6 : Heap) (Ar : Int -> Str -> Int -> Prop) (lt : List (Int × Value)) (j : Nat) (m : Str -> Option Value) (G9 : List (Addr × Obj) -> Prop) : Prop := ∀ (hX : Heap) (mX : Str -> Option Value) (own : List (Addr × Obj)) (Ar2 : Int -> Str -> Int -> Prop) (Z : NLay) (P2 : Addr -> Prop) (q0 : m (Str.ofString "n") = some (.ref x)) (q1 : m (Str.ofString "s") = some (.int k tf)) (q2 : m (Str.ofString "nfa") = some (.ref x2)) (q4 : NvSt prog w hz0 g s.heap s.heap.objs.size (fr3 ++ own) x2 k tf Ar2 (fun _ => False) Z P2 hX mX) (q5 : (h6.objs.size ∈ own.map (·.1) ∨ hX.get? h6.objs.size = none)) (q6 : (∀ a lab b, Ar2 a lab b -> Ar b lab a)) (q7 : ∀ a ∈ (lt.take j).map Prod.fst, ∀ lab b, Ar a lab b -> Ar2 b lab a), G9 (fr3 ++ allOf g s.heap.objs.size ((fr3 ++ own).map (·.1)) hX)
noncomputable def RvB (prog : Program) (w : World) (hz0 : Heap) (g : Heap) (s : Shared) (x : Addr) (k : Int) (tf : Tok) (x2 : Addr) (fr3 : List (Addr × Obj)) (h10 : Heap) (Ar : Int -> Str -> Int -> Prop) (lt : List (Int × Value)) (li : List (Str × Value)) (own : List (Addr × Obj)) (j : Nat) (a : Int) (ta2 : Tok) (j2 : Nat) (m : Str -> Option Value) (G9 : List (Addr × Obj) -> Prop) : Prop := ∀ (hX : Heap) (mX : Str -> Option Value) (own2 : List (Addr × Obj)) (Ar2 : Int -> Str -> Int -> Prop) (Z : NLay) (P2 : Addr -> Prop) (q0 : m (Str.ofString "n") = some (.ref x)) (q1 : m (Str.ofString "s") = some (.int k tf)) (q2 : m (Str.ofString "nfa") = some (.ref x2)) (q3 : m (Str.ofString "src") = some (.int a ta2)) (q5 : NvSt prog w hz0 g s.heap s.heap.objs.size ((fr3 ++ own) ++ own2) x2 k tf Ar2 (fun _ => False) Z P2 hX mX) (q6 : (h10.objs.size ∈ own2.map (·.1) ∨ hX.get? h10.objs.size = none)) (q7 : (∀ a lab b, Ar2 a lab b -> Ar b lab a)) (q8 : (∀ a ∈ (lt.take j).map Prod.fst, ∀ lab b, Ar a lab b -> Ar2 b lab a)) (q9 : ∀ lab ∈ (li.take j2).map Prod.fst, ∀ b, Ar a lab b -> Ar2 b lab a), G9 ((fr3 ++ own) ++ allOf g s.heap.objs.size (((fr3 ++ own) ++ own2).map (·.1)) hX)
noncomputable def RvC (prog : Program) (w : World) (hz0 : Heap) (g : Heap) (s : Shared) (x : Addr) (k : Int) (tf : Tok) (x2 : Addr) (fr3 : List (Addr × Obj)) (Ar : Int -> Str -> Int -> Prop) (lt : List (Int × Value)) (li : List (Str × Value)) (own : List (Addr × Obj)) (own2 : List (Addr × Obj)) (j : Nat) (j2 : Nat) (a : Int) (ta2 : Tok) (lab : Str) (tl : Tok) (I : Addr) (ks : List Int) (j3 : Nat) (m : Str -> Option Value) (G9 : List (Addr × Obj) -> Prop) : Prop := ∀ (hX : Heap) (mX : Str -> Option Value) (own3 : List (Addr × Obj)) (Ar2 : Int -> Str -> Int -> Prop) (Z : NLay) (P2 : Addr -> Prop) (q0 : m (Str.ofString "n") = some (.ref x)) (q1 : m (Str.ofString "s") = some (.int k tf)) (q2 : m (Str.ofString "nfa") = some (.ref x2)) (q3 : m (Str.ofString "src") = some (.int a ta2)) (q4 : m (Str.ofString "label") = some (.str lab tl)) (q6 : NvSt prog w hz0 g s.heap s.heap.objs.size (((fr3 ++ own) ++ own2) ++ own3) x2 k tf Ar2 (fun _ => False) Z P2 hX mX) (q7 : (I ∈ own3.map (·.1) ∨ hX.get? I = none)) (q8 : (∀ a lab b, Ar2 a lab b -> Ar b lab a)) (q9 : (∀ a ∈ (lt.take j).map Prod.fst, ∀ lab b, Ar a lab b -> Ar2 b lab a)) (q10 : (∀ lab ∈ (li.take j2).map Prod.fst, ∀ b, Ar a lab b -> Ar2 b lab a)) (q11 : ∀ b ∈ ks.take j3, Ar2 b lab a), G9 (((fr3 ++ own) ++ own2) ++ allOf g s.heap.objs.size ((((fr3 ++ own) ++ own2) ++ own3).map (·.1)) hX)
noncomputable def RvD (prog : Program) (w : World) (hz0 : Heap) (g : Heap) (s : Shared) (x : Addr) (k : Int) (tf : Tok) (x2 : Addr) (fr3 : List (Addr × Obj)) (Ar : Int -> Str -> Int -> Prop) (Fin : Int -> Prop) (I : Addr) (ks : List Int) (j : Nat) (m : Str -> Option Value) (G9 : List (Addr × Obj) -> Prop) : Prop := ∀ (hX : Heap) (mX : Str -> Option Value) (own : List (Addr × Obj)) (Ar2 : Int -> Str -> Int -> Prop) (Z : NLay) (P2 : Addr -> Prop) (q0 : m (Str.ofString "n") = some (.ref x)) (q1 : m (Str.ofString "s") = some (.int k tf)) (q2 : m (Str.ofString "nfa") = some (.ref x2)) (q4 : NvSt prog w hz0 g s.heap s.heap.objs.size (fr3 ++ own) x2 k tf Ar2 (fun _ => False) Z P2 hX mX) (q5 : (I ∈ own.map (·.1) ∨ hX.get? I = none)) (q6 : (∀ a lab b, Ar2 a lab b -> Ar b lab a ∨ (a = k /\ lab = EPS /\ Fin b))) (q7 : (∀ a lab b, Ar b lab a -> Ar2 a lab b)) (q8 : ∀ b ∈ ks.take j, Ar2 k EPS b), G9 (fr3 ++ allOf g s.heap.objs.size ((fr3 ++ own).map (·.1)) hX)
variable {prog : Program} {w : World} {p : Program} {loose : List Str} {mean : ExcName -> Option Value} {mg mb : Str -> Option Value} {hz0 hq : Heap}
variable {s : Shared} {dp un : Nat} {fr : List Env} {gd : Option (List Code)} {R : Result -> Shared -> Prop}
variable {x dx t f : Addr} {i : Int} {Ar : Int -> Str -> Int -> Prop} {Fin : Int -> Prop} {t1 t2 t3 ti : Tok} {n : Nat}
theorem rev_c {fl : Addr} {k : Int} {tf : Tok} {c : Nat} {U : Int -> Prop} (H : Base (hd.heap_1 w.params) p loose mean mg mb hz0) (hk : ∀ b o, hz0.get? b = some o -> s.heap.get? b = some o)
  (V : NfaAt prog w hz0 hq s.heap x i Ar Fin dx t f t1 t2 t3 ti n) (hfl : s.heap.get? fl = some (listO #[.int k tf] c)) (fl0 : hz0.get? fl = none) (flq : hq.get? fl = none) (flx : fl ≠ x) (fld : fl ≠ dx)
  (hUs : ∀ m : List Int, m.Nodup -> (∀ a ∈ m, U a ∨ a = k) -> m.length ≤ 7) (hAU : ∀ a lab b, Ar a lab b -> U a /\ U b) (hFU : ∀ a, Fin a -> U a) (hiU : U i)
  (hlab : ∀ m : List Str, m.Nodup -> (∀ l ∈ m, (∃ a b, Ar a l b) ∨ l = EPS) -> m.length ≤ 7)
  (hd1 : dp + 39 < recursionLimit) (hu : un + 160 < cLine)
  (hR : ∀ (h' : Heap) (tk : Nat) (dr : Drawn) (x2 : Addr) (tz : Tok) (Z : NLay) (P2 : Addr -> Prop), OffKeep [fl] s.heap h' -> (∀ b, P2 b ∨ b = x2 ∨ b = Z.dx -> s.heap.get? b = none) ->
   NfaL prog w hz0 P2 h' x2 k tz (fun a lab b => Ar b lab a ∨ (a = k /\ lab = EPS /\ Fin b)) (fun a => a = i) Z -> R (.ok (.ret (.ref x2))) { s with heap := h', toks := tk, drawn := dr }) :
  codeAny (model prog w) (A0 dp un fr gd) (.call (.ref 344) ⟨[.ref x, .ref fl], []⟩) R s := by
 have hN : ∀ q ∈ [(fl, listO #[.int k tf] c), (x, instObj 229 dx), (dx, nfaD w t f (.int i ti) t1 t2 t3 n)], s.heap.get? q.1 = some q.2 /\ hz0.get? q.1 = none := by
  intro q hq'
  rcases List.mem_cons.mp hq' with rfl | hq'
  ·exact ⟨hfl, fl0⟩
  ·exact V.led q hq'
 have hNq : ∀ q ∈ [(fl, listO #[.int k tf] c), (x, instObj 229 dx), (dx, nfaD w t f (.int i ti) t1 t2 t3 n)], hq.get? q.1 = none := by
  intro q hq'
  rcases List.mem_cons.mp hq' with rfl | hq'
  ·exact flq
  ·exact V.ledQ q hq'
 k_dflt (apply enter; assumption; assumption; assumption; k_is; k_is; exact Nat.lt_of_le_of_lt (Nat.le_add_right _ _) (by assumption); exact BindsTo.of_eq rfl; exact locs rfl; exact rfl; exact rfl; exact rfl; decide; k_whole; intro _ _ _ _ _ _ _ _ _; (try dsimp only); (try k_fold))
 rename_i g hz1 Hg Hs Hk F N X T
 have subg := sub_hide Hg V.sub hNq
 have sub0 := sub_hide Hg hk (fun q hq => (hN q hq).2)
 obtain ⟨lt, Dt, t1', t2'⟩ := V.T.stay subg
 refine x12 V.S fun lf Sf hf => ?_
 have Sg := Sf.stay subg
 o_steps
 try dsimp only
 refine pop_listO (l := []) (v := .int k tf) (c := c) ?_ (by decide) fun h2 c2 hs2 ho2 => ?_
 ·exact N.get (by k_mem)
 refine x02 (news_hit (pre := []) F N (by omega_side) (by simp [Ne.symm flx, Ne.symm fld]) hs2 ho2) fun Fz2 Nz2 => ?_
 dsimp only [List.nil_append] at Nz2
 clear F N
 o_steps
 (rename Fr _ _ _ _ => Fz3; rename News _ _ _ _ => Nz3; try rename Heap => hz3)
 have hg : ∀ b, s.heap.get? b = none -> g.get? b = none := fun b e => none_sub Hs e
 refine mk_nfa (i := k) (ti := tf) H ?_ ?_ ?_ fun h4 tk4 x2 dx2 ta fa u1 u2 u3 P2 l2 dOf2 lOf2 sOf2 hk4 hP4 V4 => ?_
 ·exact fun b o e => Fz3.keep _ _ (sub0 b o e)
 ·exact (rmL hd1 rfl : dp + 20 < recursionLimit)
 ·exact (rmL hu rfl : un + 83 < cLine)
 have hshL : ∀ {fr' : List (Addr × Obj)} {h : Heap} {m : Str -> Option Value}, Led g s.heap.objs.size fr' h m -> (∀ a ∈ [fl, x, dx], a ∈ fr'.map (·.1)) -> ∀ b, h.get? b = none -> s.heap.get? b = none := fun S hm b e => by
  cases e' : s.heap.get? b with
  | none => rfl
  | some o =>
   by_cases q : b ∈ [fl, x, dx]
   ·refine x12 (List.mem_map.mp (hm b q)) fun p hp q91 => ?_; subst q91
    rw [(S.N p hp).1] at e; cases e
   ·rw [S.F.keep _ _ (Hg _ _ e' (by simpa using q))] at e; cases e
 have L3 : Led g s.heap.objs.size [(fl, listO #[] c2), (x, instObj 229 dx), (dx, nfaD w t f (.int i ti) t1 t2 t3 n)] hz3 _ := ⟨Fz3, Nz3, by
  refine all3 ?_ ?_ ?_
  ·exact nt_cls (by show (Value.type "list") ≠ _; decide)
  ·exact nt_cls (by show (Value.ref 229) ≠ _; decide)
  ·exact nt_cls (by show (Value.type "dict") ≠ _; decide)⟩
 have Sz4 : NvSt prog w hz0 g s.heap s.heap.objs.size [(fl, listO #[] c2), (x, instObj 229 dx), (dx, nfaD w t f (.int i ti) t1 t2 t3 n)] x2 k tf (fun _ _ _ => False) (fun _ => False) ⟨dx2, ta, fa, u1, u2, u3, 3, l2, dOf2, lOf2, sOf2⟩ P2 h4 _ :=
  ⟨L3.stay hk4, Part.nfa, V4, fun b q => ⟨L3.fresh_aside (hP4 b q), hshL L3 (by omega_side) b (hP4 b q)⟩⟩
 clear L3 Fz3 Nz3 V4
 have F4 := Sz4.F
 have N4 := Sz4.all
 dsimp only [List.cons_append, List.nil_append] at N4
 o_steps
 (rename Fr _ _ _ _ => F5; rename News _ _ _ _ => N5; try rename Heap => hz5)
 have Sz5 := Sz4.same F5 N5 (by w_tidy)
 clear Sz4
 have F5 := Sz5.F
 have N5 := Sz5.all
 dsimp only [List.cons_append, List.nil_append] at N5
 refine For_g (hs := fun _ => rfl) g ?_
 o_steps
 refine meth_dict (Dt.fr F5) PySem.F.slot_dict_items PySem.F.type_dict_items ?_
 o_steps
 refine call_items (Dt.fr F5) fun h6 vw hk6 hvw => ?_
 have Sz6 := Sz5.stay' hk6
 let fr3 := ledOf Sz6.toLed
 have h33 : ∀ a ∈ [fl, x, dx], a ∈ fr3.map (·.1) := by omega_side
 have Sz6 : NvSt prog w hz0 g s.heap s.heap.objs.size fr3 _ _ _ _ _ _ _ _ _ := Sz6
 have F6 := fr_stay F5 hk6
 clear F5 N5 Sz5
 o_steps
 have hdT : ∃ o, g.get? t = some o := let ⟨_, es, ep, e, _⟩ := Dt; ⟨_, e⟩
 have hset : ∀ {h : Heap} {m : Str -> Option Value} {fr' : List (Addr × Obj)}, Led g s.heap.objs.size fr' h m -> (∀ q ∈ fr3, q ∈ fr') -> ∀ b, h.get? b = none -> s.heap.get? b = none := fun S hs => hshL S fun a ha => by
  refine x12 (List.mem_map.mp (h33 a ha)) fun p hp q92 => ?_; subst q92
  exact List.mem_map_of_mem (hs p hp)
 have hArU : ∀ {Ar2 : Int -> Str -> Int -> Prop}, (∀ a lab b, Ar2 a lab b -> Ar b lab a ∨ (a = k /\ lab = EPS /\ Fin b)) -> ∀ a lab b, Ar2 a lab b -> (U a ∨ a = k) /\ U b := fun hs a lab b q => (hs a lab b q).elim (fun q => ⟨.inl (hAU _ _ _ q).2, (hAU _ _ _ q).1⟩) fun q => ⟨.inr q.1, hFU _ q.2.2⟩
 refine iter_itemsG (fun j m news => Chu (RvA prog w hz0 g s x k tf x2 fr3 h6 Ar lt j m) news) Dt hvw rfl F6 (news := fr3 ++ allOf g s.heap.objs.size ((fr3 ++ ([] : List (Addr × Obj))).map (·.1)) h6) (by rw [List.append_nil]; exact Sz6.all) ?_ ?_ ?_
 ·exact (fun _ k9 => k9 h6 _ ([]) (fun _ _ _ => False) _ P2 rfl rfl rfl (by rw [List.append_nil]; exact Sz6) (.inr (fresh_size _)) (fun _ _ _ q => q.elim) (fun a ha => by simp at ha))
 ·rintro j a u key T1 mz1 news1 hz7 tkz1 dr own hj ⟨ta2, rfl⟩ hT1 hJ9
  refine Chu.out hJ9 ?_
  clear hJ9
  rintro hX mX own' Ar2 Z P2 m1 m2 m3 SX hIX hs2 hc2 hav hown hIo F7 N7
  refine stepG_hide fun G hG => ?_
  obtain ⟨d, li, Di, -, t3', t4'⟩ := t1' _ _ (List.mem_of_getElem? hj)
  have hdD : ∃ o, g.get? d = some o := let ⟨_, es, ep, e, _⟩ := Di; ⟨_, e⟩
  have hIo' : h6.objs.size ∈ own.map (·.1) := x11 (hIo) fun o ho => List.mem_map.mpr ⟨_, ho, rfl⟩
  have hnavI : ∀ q ∈ fr3, q.1 ≠ h6.objs.size := fun q hq e => by
   have := hav q (List.mem_append_left _ hq)
   simp [e] at this
  have Sz7 := SX.turn F7 N7 hown hIX
  clear N7 F7 SX hIX
  refine assign_pair rfl ⟨_, hT1, rfl, _, rfl⟩ fun h8 hk8 => ?_
  have Sz8 := Sz7.stay' hk8
  clear Sz7
  have F8 := fr_put (Str.ofString "n") (fr_put (Str.ofString "s") (fr_put (Str.ofString "nfa") Sz8.F m3) (by exact m2)) (by exact m1)
  have N8 := Sz8.all
  dsimp only [fr3, ledOf] at N8
  dsimp only [List.cons_append, List.nil_append] at N8
  o_steps
  (rename Fr _ _ _ _ => Fz9; rename News _ _ _ _ => Nz9; try rename Heap => hz9)
  have Sz9 := Sz8.same Fz9 Nz9 (by intro q hq; dsimp only [fr3, ledOf, List.cons_append, List.nil_append] at hq; repeat (first | exact hq | refine List.Mem.tail _ ?_))
  clear Sz8 Fz9 Nz9
  have Fz9 := Sz9.F
  have Nz9 := Sz9.all
  dsimp only [fr3, ledOf] at Nz9
  dsimp only [List.cons_append, List.nil_append] at Nz9
  refine For_g (hs := fun _ => rfl) g ?_
  o_steps
  refine meth_dict (Di.fr Fz9) PySem.F.slot_dict_items PySem.F.type_dict_items ?_
  o_steps
  refine call_items (Di.fr Fz9) fun h10 vw2 hk10 hvw2 => ?_
  have S10 := Sz9.stay' hk10
  have F10 := fr_stay Fz9 hk10
  clear Fz9 Nz9 Sz9
  o_steps
  refine iter_itemsG (fun j2 m news => Chu (RvB prog w hz0 g s x k tf x2 fr3 h10 Ar lt li own j a ta2 j2 m) news) Di hvw2 rfl F10 (news := (fr3 ++ own) ++ allOf g s.heap.objs.size (((fr3 ++ own) ++ ([] : List (Addr × Obj))).map (·.1)) h10) (by rw [List.append_nil]; exact S10.all) ?_ ?_ ?_
  ·exact (fun _ k9 => k9 h10 _ ([]) Ar2 Z P2 rfl rfl rfl rfl (by rw [List.append_nil]; exact S10) (.inr (fresh_size _)) hs2 hc2 (fun a ha => by simp at ha))
  ·rintro j2 lab u key T1 mz2 news2 hz11 tkz2 drz2 own2 hj2 ⟨tl, rfl⟩ hT2 hJ9
   refine Chu.out hJ9 ?_
   clear hJ9
   rintro hX mX own2' Ar2 Z P2 m1 m2 m3 m4 SX hIX hs2 hc2 hcj hav2 hown2 hIo2 F11 N11
   refine stepG_hide fun G hG => ?_
   obtain ⟨sa, xs, Ss, xne, hxs⟩ := t3' _ _ (List.mem_of_getElem? hj2)
   have hdS : ∃ o, g.get? sa = some o := x12 (Ss.cls) fun o e _ => ⟨o, e⟩
   have hIo2' : h10.objs.size ∈ own2.map (·.1) := x11 (hIo2) fun o ho => List.mem_map.mpr ⟨_, ho, rfl⟩
   have hnavI2 : ∀ q ∈ fr3 ++ own, q.1 ≠ h10.objs.size := fun q hq e => by
    have := hav2 q (List.mem_append_left _ hq)
    simp [e] at this
   have S11 := SX.turn F11 N11 hown2 hIX
   clear N11 F11 SX hIX
   refine assign_pair rfl ⟨_, hT2, rfl, _, rfl⟩ fun h12 hk12 => ?_
   have S12 := S11.stay' hk12
   clear S11
   have F12 := fr_put (Str.ofString "n") (fr_put (Str.ofString "s") (fr_put (Str.ofString "nfa") (fr_put (Str.ofString "src") S12.F m4) (by exact m3)) (by exact m2)) (by exact m1)
   have N12 := S12.all
   dsimp only [fr3, ledOf] at N12
   dsimp only [List.cons_append, List.nil_append] at N12
   o_steps
   (rename Fr _ _ _ _ => F13; rename News _ _ _ _ => N13; try rename Heap => hz13)
   have S13 := S12.same F13 N13 (by intro q hq; dsimp only [fr3, ledOf, List.cons_append, List.nil_append] at hq; repeat (first | exact hq | refine List.Mem.tail _ ?_))
   clear S12 F13 N13
   have F13 := S13.F
   have N13 := S13.all
   dsimp only [fr3, ledOf] at N13
   dsimp only [List.cons_append, List.nil_append] at N13
   refine For_g (hs := fun _ => rfl) g ?_
   o_steps
   refine iter_setG (ht := fun _ _ => rfl) (fun I ks j3 m news => Chu (RvC prog w hz0 g s x k tf x2 fr3 Ar lt li own own2 j j2 a ta2 lab tl I ks j3 m) news) Ss rfl F13 (news := ((fr3 ++ own) ++ own2) ++ allOf g s.heap.objs.size ((((fr3 ++ own) ++ own2) ++ ([] : List (Addr × Obj))).map (·.1)) hz13) (by rw [List.append_nil]; exact S13.all) ?_ ?_ ?_
   ·exact fun I ks hI => (fun _ k9 => k9 hz13 _ ([]) Ar2 Z P2 rfl rfl rfl rfl rfl (by rw [List.append_nil]; exact S13) (.inr hI) hs2 hc2 hcj (fun b hb => by simp at hb))
   ·rintro I ks j3 b tv mz3 news3 hz14 tkz3 drz3 own3 hks hj3 hJ9
    refine Chu.out hJ9 ?_
    clear hJ9
    rintro hX mX own3' Ar2 Z P2 m1 m2 m3 m4 m5 SX hIX hs2 hc2 hcj hck hav3 hown3 hIo3 F14 N14
    refine stepG_hide fun G hG => ?_
    have hAb : Ar a lab b := (hxs b).mp ((hks b).mp (List.mem_of_getElem? hj3))
    have hIo3' : I ∈ own3.map (·.1) := x11 (hIo3) fun o ho => List.mem_map.mpr ⟨_, ho, rfl⟩
    have S14 := SX.turn F14 N14 hown3 hIX
    clear N14 F14 SX hIX
    have F14 := fr_put (Str.ofString "n") (fr_put (Str.ofString "s") (fr_put (Str.ofString "nfa") (fr_put (Str.ofString "src") (fr_put (Str.ofString "label") S14.F m5) (by exact m4)) (by exact m3)) (by exact m2)) (by exact m1)
    have N14 := nv_allD S14 hg
    dsimp only [fr3, ledOf] at N14
    dsimp only [List.cons_append, List.nil_append] at N14
    refine wpAny_assign_Name ?_
    o_steps
    (rename Fr _ _ _ _ => F15; rename News _ _ _ _ => N15; try rename Heap => hz15)
    have S15 := S14.same F15 N15 (by intro q hq; dsimp only [fr3, ledOf, List.cons_append, List.nil_append] at hq; repeat (first | exact hq | refine List.Mem.tail _ ?_))
    clear S14
    have hU2 := hArU fun a lab b q => .inl (hs2 a lab b q)
    refine wpAny_call ?_
    refine n_add_trans H ?_ S15.phi ?_ ?_ ?_ ?_ ?_ fun h16 tk16 P3 l3 dOf3 lOf3 sOf3 hk16 hP3 _ V3 => ?_
    ·exact fun b o e => F15.keep _ _ (sub0 b o e)
    ·exact fun m hm hmm => hUs m hm fun q hq => (hmm q hq).elim (fun e => .inl (e ▸ (hAU _ _ _ hAb).1)) fun h => .inl (hU2 _ _ _ h).2
    ·exact fun m hm hmm => hUs m hm fun q hq => let ⟨lab, b, h⟩ := hmm q hq; (hU2 _ _ _ h).1
    ·exact fun m hm hmm => hlab m hm fun q hq => let ⟨a, b, h⟩ := hmm q hq; .inl ⟨b, a, hs2 _ _ _ h⟩
    ·exact (rmL hd1 rfl : dp + 10 < recursionLimit)
    ·exact (rmL hu rfl : un + 43 < cLine)
    have S16 := nv_change (Z' := { Z with l := l3, dOf := dOf3, lOf := lOf3, sOf := sOf3 }) S15 hk16 hP3 V3 rfl hg (hset S15.toLed fun q hq => List.mem_append_left _ (List.mem_append_left _ (List.mem_append_left _ hq)))
    clear S15 F15 N15
    try dsimp only
    have F16 := S16.F
    have N16 := S16.all
    dsimp only [fr3, ledOf] at N16
    dsimp only [List.cons_append, List.nil_append] at N16
    o_steps
    exact hG h16 _ _ _ _ F16 S16.toLed.endN (S16.toLed.endA2 hIo3' (fun q hq e => by have := hav3 q (List.mem_append_left _ hq); simp [e] at this) hdS) (fun _ k9 => k9 h16 _ own3 _ _ P3 rfl rfl rfl rfl rfl S16 (.inl hIo3') (fun a' l' b' q => q.elim (hs2 a' l' b') fun ⟨e1, e2, e3⟩ => by rw [e1, e2, e3]; exact hAb) (fun a' ha' l' b' q => .inl (hc2 a' ha' l' b' q)) (fun l' hl' b' q => .inl (hcj l' hl' b' q)) (fun b' hb' => by
      rw [List.take_add_one, hj3] at hb'
      rcases List.mem_append.mp hb' with q | q
      ·exact .inl (hck b' q)
      ·simp at q; subst q; exact .inr ⟨rfl, rfl, rfl⟩))
   ·rintro I ks mz3 news3 hz14 tkz3 drz3 hks hJ9
    refine Chu.out hJ9 ?_
    clear hJ9
    rintro hX mX own3' Ar2 Z P2 m1 m2 m3 m4 m5 SX hIX hs2 hc2 hcj hck F14 N14
    have S14 := SX.leave F14 N14
    clear SX N14 F14
    have F14 := fr_put (Str.ofString "n") (fr_put (Str.ofString "s") (fr_put (Str.ofString "nfa") (fr_put (Str.ofString "src") S14.F m4) (by exact m3)) (by exact m2)) (by exact m1)
    have N14 := S14.all
    try dsimp only
    o_steps
    rw [List.take_length] at hck
    exact hG hz14 _ _ _ _ F14 S14.toLed.endN (S14.toLed.endA2 hIo2' hnavI2 hdD) (fun _ k9 => k9 hz14 _ own2 Ar2 Z P2 rfl rfl rfl rfl S14 (.inl hIo2') hs2 hc2 (fun l' hl' b' q => by
     rw [List.take_add_one, hj2, List.map_append] at hl'
     rcases List.mem_append.mp hl' with hl' | hl'
     ·exact hcj l' hl' b' q
     ·simp at hl'; subst hl'
      exact hck b' ((hks b').mpr ((hxs b').mpr q))))
  ·rintro mz2 news2 hz11 tkz2 drz2 hJ9
   refine Chu.out hJ9 ?_
   clear hJ9
   rintro hX mX own2' Ar2 Z P2 m1 m2 m3 m4 SX hIX hs2 hc2 hcj F11 N11
   have S11 := SX.leave F11 N11
   clear SX N11 F11
   have F11 := fr_put (Str.ofString "n") (fr_put (Str.ofString "s") (fr_put (Str.ofString "nfa") S11.F m3) (by exact m2)) (by exact m1)
   have N11 := S11.all
   try dsimp only
   o_steps
   rw [List.take_length] at hcj
   exact hG hz11 _ _ _ _ F11 S11.toLed.endN (S11.toLed.endA2 hIo' hnavI hdT) (fun _ k9 => k9 hz11 _ own Ar2 Z P2 rfl rfl rfl S11 (.inl hIo') hs2 (fun a' ha' l' b' q => by
    rw [List.take_add_one, hj, List.map_append] at ha'
    rcases List.mem_append.mp ha' with ha' | ha'
    ·exact hc2 a' ha' l' b' q
    ·simp at ha'; subst ha'
     exact hcj l' (t4' _ _ q) b' q))
 ·rintro mz2 news2 hz7 tkz2 drz2 hJ9
  refine Chu.out hJ9 ?_
  clear hJ9
  rintro hX mX own' Ar2 Z P2 m1 m2 m3 SX hIX hs2 hc2 F7 N7
  have Sz7 := SX.leave F7 N7
  clear SX N7 F7
  rw [List.take_length] at hc2
  have hAr2 : Ar2 = fun a lab b => Ar b lab a := by
   funext a lab b
   exact propext ⟨hs2 a lab b, fun q => hc2 b (t2' _ _ _ q) lab a q⟩
  subst hAr2
  clear hs2 hc2
  have F7 := fr_put (Str.ofString "n") (fr_put (Str.ofString "s") (fr_put (Str.ofString "nfa") Sz7.F m3) (by exact m2)) (by exact m1)
  have N7 := Sz7.all
  dsimp only [fr3, ledOf] at N7
  dsimp only [List.cons_append, List.nil_append] at N7
  try dsimp only
  o_steps
  refine For_g (hs := fun _ => rfl) g ?_
  o_steps
  (rename Fr _ _ _ _ => F8; rename News _ _ _ _ => N8; try rename Heap => hz8)
  have Sz8 := Sz7.same F8 N8 (by intro q hq; dsimp only [fr3, ledOf, List.cons_append, List.nil_append] at hq; repeat (first | exact hq | refine List.Mem.tail _ ?_))
  clear Sz7
  have hdF : ∃ o, g.get? f = some o := x12 (Sg.cls) fun o e _ => ⟨o, e⟩
  refine iter_setG (ht := fun _ _ => rfl) (fun I ks j m news => Chu (RvD prog w hz0 g s x k tf x2 fr3 Ar Fin I ks j m) news) Sg rfl F8 (news := fr3 ++ allOf g s.heap.objs.size ((fr3 ++ ([] : List (Addr × Obj))).map (·.1)) hz7) (by rw [List.append_nil]; exact Sz8.all) ?_ ?_ ?_
  ·exact fun I ks hI => (fun _ k9 => k9 hz7 _ ([]) _ Z P2 rfl rfl rfl (by rw [List.append_nil]; exact Sz8) (.inr hI) (fun a lab b q => .inl q) (fun a lab b q => q) (fun b hb => by simp at hb))
  ·rintro I ks j b tv mz3 news3 hz14 tkz3 drz3 own hks hj hJ9
   refine Chu.out hJ9 ?_
   clear hJ9
   rintro hX mX own' Ar2 Z P2 m1 m2 m3 SX hIX hs2 hc2 hck hav3 hown3 hIo3 F14 N14
   refine stepG_hide fun G hG => ?_
   have hFb : Fin b := (hf b).mp ((hks b).mp (List.mem_of_getElem? hj))
   have hIo3' : I ∈ own.map (·.1) := x11 (hIo3) fun o ho => List.mem_map.mpr ⟨_, ho, rfl⟩
   have S14 := SX.turn F14 N14 hown3 hIX
   clear N14 F14 SX hIX
   have F14 := fr_put (Str.ofString "n") (fr_put (Str.ofString "s") (fr_put (Str.ofString "nfa") S14.F m3) (by exact m2)) (by exact m1)
   have N14 := nv_allD S14 hg
   dsimp only [fr3, ledOf] at N14
   dsimp only [List.cons_append, List.nil_append] at N14
   refine wpAny_assign_Name ?_
   o_steps
   (rename Fr _ _ _ _ => F15; rename News _ _ _ _ => N15; try rename Heap => hz15)
   have S15 := S14.same F15 N15 (by intro q hq; dsimp only [fr3, ledOf, List.cons_append, List.nil_append] at hq; repeat (first | exact hq | refine List.Mem.tail _ ?_))
   clear S14
   have hU2 := hArU hs2
   refine wpAny_call ?_
   refine n_add_trans H ?_ S15.phi ?_ ?_ ?_ ?_ ?_ fun h16 tk16 P3 l3 dOf3 lOf3 sOf3 hk16 hP3 _ V3 => ?_
   ·exact fun b o e => F15.keep _ _ (sub0 b o e)
   ·exact fun m hm hmm => hUs m hm fun q hq => (hmm q hq).elim (fun e => .inl (e ▸ hFU _ hFb)) fun h => .inl (hU2 _ _ _ h).2
   ·exact fun m hm hmm => hUs m hm fun q hq => let ⟨lab, b, h⟩ := hmm q hq; (hU2 _ _ _ h).1
   ·exact fun m hm hmm => hlab m hm fun q hq => let ⟨a, b, h⟩ := hmm q hq; (hs2 _ _ _ h).elim (fun h => .inl ⟨b, a, h⟩) fun h => .inr h.2.1
   ·exact (rmL hd1 rfl : dp + 10 < recursionLimit)
   ·exact (rmL hu rfl : un + 43 < cLine)
   have S16 := nv_change (Z' := { Z with l := l3, dOf := dOf3, lOf := lOf3, sOf := sOf3 }) S15 hk16 hP3 V3 rfl hg (hset S15.toLed fun q hq => List.mem_append_left _ hq)
   clear S15 F15 N15
   try dsimp only
   have F16 := S16.F
   have N16 := S16.all
   dsimp only [fr3, ledOf] at N16
   dsimp only [List.cons_append, List.nil_append] at N16
   o_steps
   exact hG h16 _ _ _ _ F16 S16.toLed.endN (S16.toLed.endA2 hIo3' (fun q hq e => by have := hav3 q (List.mem_append_left _ hq); simp [e] at this) hdF) (fun _ k9 => k9 h16 _ own _ _ P3 rfl rfl rfl S16 (.inl hIo3') (fun a' l' b' q => q.elim (hs2 a' l' b') fun ⟨e1, e2, e3⟩ => .inr ⟨e1, e2, e3 ▸ hFb⟩) (fun a' l' b' q => .inl (hc2 a' l' b' q)) (fun b' hb' => by
     rw [List.take_add_one, hj] at hb'
     rcases List.mem_append.mp hb' with q | q
     ·exact .inl (hck b' q)
     ·simp at q; subst q; exact .inr ⟨rfl, rfl, rfl⟩))
  ·rintro I ks mz3 news3 hz14 tkz3 drz3 hks hJ9
   refine Chu.out hJ9 ?_
   clear hJ9
   rintro hX mX own' Ar2 Z P2 m1 m2 m3 SX hIX hs2 hc2 hck F14 N14
   have S14 := SX.leave F14 N14
   clear SX N14 F14
   rw [List.take_length] at hck
   have hAr2 : Ar2 = fun a lab b => Ar b lab a ∨ (a = k /\ lab = EPS /\ Fin b) := by
    funext a lab b
    refine propext ⟨hs2 a lab b, fun q => q.elim (hc2 a lab b) ?_⟩
    rintro ⟨rfl, rfl, q2⟩
    exact hck b ((hks b).mpr ((hf b).mpr q2))
   subst hAr2
   clear hs2 hc2 hck
   have F14 := fr_put (Str.ofString "n") (fr_put (Str.ofString "nfa") S14.F m3) (by exact m1)
   have N14 := nv_allD S14 hg
   dsimp only [fr3, ledOf] at N14
   dsimp only [List.cons_append, List.nil_append] at N14
   try dsimp only
   o_steps
   (rename Fr _ _ _ _ => F15; rename News _ _ _ _ => N15; try rename Heap => hz15)
   have S15 := S14.same F15 N15 (by intro q hq; dsimp only [fr3, ledOf, List.cons_append, List.nil_append] at hq; repeat (first | exact hq | refine List.Mem.tail _ ?_))
   clear S14
   refine wpAny_call ?_
   refine n_add_final H ?_ S15.phi ?_ ?_ ?_ fun h16 tk16 hoff V3 => ?_
   ·exact fun b o e => F15.keep _ _ (sub0 b o e)
   ·exact fun m hm hmm => hUs m hm fun q hq => (hmm q hq).elim (fun e => .inl (e ▸ hiU)) fun h => h.elim
   ·exact (rmL hd1 rfl : dp + 10 < recursionLimit)
   ·exact (rmL hu rfl : un + 43 < cLine)
   have hPf : P2 Z.f := S15.phi.pf
   have S16 := nv_change (Z' := Z) S15 (fun b o nb e => hoff b o (by simp; rintro rfl; exact nb hPf) e) (fun b q => .inl q) V3 rfl hg (hset S15.toLed fun q hq => hq)
   clear S15 F15 N15
   try dsimp only
   have F16 := S16.F
   have N16 := S16.all
   dsimp only [fr3, ledOf] at N16
   dsimp only [List.cons_append, List.nil_append] at N16
   o_steps
   have hFe : (fun a => a = i ∨ False) = fun a => a = i := by funext a; simp
   refine hR _ _ _ x2 tf Z P2 (fun b o hb e => ?_) (fun b q => (S16.as b q).2) (hFe ▸ S16.phi)
   have hb : b ≠ fl := by simpa using hb
   by_cases q1 : b = x
   ·subst q1; rw [V.ox] at e; cases e
    exact N16.get (by k_mem)
   ·by_cases q2 : b = dx
    ·subst q2; rw [V.od] at e; cases e
     exact N16.get (by k_mem)
    ·exact F16.keep _ _ (Hg _ _ e (by simp [q1, q2, hb]))
end
-- Remap
section
open PySem PySem.W PyProof.Rows PySem.Calls
theorem off_Remap : True := by
 w_top off
 trivial
noncomputable def remapParts : Arguments × List Stmt × Scope := match PySem.Challenge.pw_iu0053_01.main.body[7]? with
 | some (PySem.Stmt.FunctionDef _ _ body _ _ _ _ _ _ _) => match body[1]? with
  | some (PySem.Stmt.FunctionDef _ ps b _ _ _ sc _ _ _) => (ps, b, sc)
  | _ => default
 | _ => default
variable {prog : Program} {w : World} {p : Program} {loose : List Str} {mean : ExcName -> Option Value} {mg mb : Str -> Option Value} {hz0 : Heap}
variable {s : Shared} {dp un : Nat} {fr : List Env} {gd : Option (List Code)} {R : Result -> Shared -> Prop}
theorem len_at {A : Around} {E : Value -> Shared -> Prop} {K : Type} [DecidableEq K] {dk : DKind prog w K} {d : Addr} {l : List (K × Value)} {Q : Value -> Shared -> Prop} (D : DictAt dk s.heap d l) (hfit : (l.length : Int) < 2 ^ 63)
  (h : ∀ t tk, Q (.int l.length t) { s with toks := tk }) : wpAny (model prog w) A (call (.builtin "len") [.ref d]) Q E s := by
 refine Calls.call_function_entry kind_len plain_len entry_len (args_len1 _) ?_
 unfold Builtin.«len»
 refine wpAny_bind (m := oneArg "len" _) (wpAny_pure ?_)
 have hT := D.typeIs
 obtain ⟨hsm, es, ep, ho, hE, hn⟩ := D
 have hlen : es.size = l.length := by rw [← hE.length, Array.length_toList]
 refine wpAny_bind (m := callSpecial? (.ref d) (Str.ofString "__len__")) (wpAny_callSpecial?_slot (name := Str.ofString "__len__") hT PySem.F.slot_dict_len (wpAny_call_entry PySem.F.slot_dict_len hT F.entry_dict_len ?_ (F.args_dict_len_1 _)))
 show wpAny _ _ (dictSize d >>= _) _ _ s
 unfold dictSize
 refine wpAny_bind (wpAny_bind (wpAny_dictEntries ho rfl (wpAny_pure ?_)))
 show wpAny _ _ (Builtin.Dict.pendingCount d >>= _) _ _ s
 refine wpAny_bind (wpAny_pendingCount_other (by simpa using hsm) ?_)
 refine wpAny_bind (wpAny_mkInt (wpAny_pure ⟨_, rfl, ?_⟩))
 refine wpAny_bind (wpAny_holding (wpAny_pure ?_))
 refine wpAny_bind (wpAny_letGo ?_)
 show wpAny _ _ (if (((es.size + 0 : Nat) : Nat) : Int) < 0 then _ else _) _ _ _
 rw [if_neg (Int.not_lt.mpr (Int.natCast_nonneg _))]
 show wpAny _ _ (if (((es.size + 0 : Nat) : Nat) : Int) ≥ 2 ^ 63 then _ else _) _ _ _
 rw [if_neg (by lia), Nat.add_zero, hlen]
 exact wpAny_bind (wpAny_mkInt (wpAny_pure ⟨_, rfl, h _ _⟩))
noncomputable def NumAre (b : Int) (l : List (List Int × Value)) : Prop := ∀ (i : Nat) k v, l[i]? = some (k, v) -> ∃ t, v = Value.int (b + i) t
theorem remap_c {D f cb cm : Addr} {ob om : Obj} {b : Int} {tb : Tok} {l : List (List Int × Value)} {k : List Int} {kr : Addr} {qual : Str} {doc pm cdv ctv : Value}
  (H : Base (hd.heap_1 w.params) p loose mean mg mb hz0) (hk : ∀ b o, hz0.get? b = some o -> s.heap.get? b = some o)
  (hf : ∃ fo, s.heap.get? f = some fo /\ fo.data = .func (fnX "remap" qual remapParts.1 remapParts.2.1 remapParts.2.2 [("mapping", cm), ("base", cb)] .none .none doc pm none cdv ctv)) (hcd : s.heap.CodeRec cdv qual)
  (DD : DictAt (dTup prog w) s.heap D l) (hD0 : hz0.get? D = none) (hob : s.heap.get? cb = some ob) (hom : s.heap.get? cm = some om) (eb : ob.data = .cell (some (.int b tb))) (em : om.data = .cell (some (.ref D))) (b0 : hz0.get? cb = none) (m0 : hz0.get? cm = none)
  (hbm : cb ≠ cm) (hbD : cb ≠ D) (hmD : cm ≠ D)
  (hN : NumAre b l) (hkr : IsTI s.heap k kr) (hlen : l.length ≤ 18) (hb : 0 ≤ b /\ b < 100)
  (hd1 : dp + 5 < recursionLimit) (hu : un + 20 < cLine)
  (hR : ∀ h' tk n t l', OffKeep [D] s.heap h' -> TupKeep s.heap h' -> DictAt (dTup prog w) h' D l' -> NumAre b l' -> (k, Value.int n t) ∈ l' -> (l' = l ∨ (k ∉ l.map (·.1) /\ l' = l ++ [(k, .int n t)])) -> R (.ok (.ret (.int n t))) { s with heap := h', toks := tk }) :
  codeAny (model prog w) (A0 dp un fr gd) (.call (.ref f) ⟨[.ref kr], []⟩) R s := by
 obtain ⟨fo, hfo, efo⟩ := hf
 have hp : remapParts = (_, _, _) := rfl
 rw [hp] at efo
 dsimp only at efo
 obtain ⟨oD, hoD⟩ : ∃ oD, s.heap.get? D = some oD := let ⟨_, es, ep, e, _⟩ := DD; ⟨_, e⟩
 have cD : oD.cls = .type "dict" := by
  obtain ⟨_, es, ep, e, _⟩ := DD
  rw [hoD] at e; cases e; rfl
 have hNn : ∀ q ∈ [(D, oD), (cb, ob), (cm, om)], s.heap.get? q.1 = some q.2 /\ hz0.get? q.1 = none := by
  refine all3 ?_ ?_ ?_
  ·exact ⟨hoD, hD0⟩
  ·exact ⟨hob, b0⟩
  ·exact ⟨hom, m0⟩
 refine enterX [(D, oD), (cb, ob), (cm, om)] H hk hNn hfo efo hcd (Nat.lt_of_le_of_lt (Nat.le_add_right _ _) (by assumption)) (BindsTo.of_eq rfl) (locs rfl) ?_ rfl rfl rfl (by decide)
 intro g hz1 Hg Hs Hk F N X T
 (try dsimp only)
 have tkg : TupKeep s.heap g := fun b' o e c => Hg _ _ e fun q => by
  simp only [List.map_cons, List.map_nil, List.mem_cons, List.not_mem_nil, or_false] at q
  rcases q with rfl | rfl | rfl
  ·rw [hoD] at e; cases e; obtain ⟨c, _⟩ := c; rw [cD] at c; exact absurd c (by decide)
  ·rw [hob] at e; cases e; obtain ⟨_, i, n, c⟩ := c; rw [eb] at c; cases c
  ·rw [hom] at e; cases e; obtain ⟨_, i, n, c⟩ := c; rw [em] at c; cases c
 repeat' ((fail_if_success (with_reducible show wpAny _ _ (eval (Expr.Name (Str.ofString "mapping") _) _) _ _ _)); (fail_if_success (with_reducible show wpAny _ _ (eval (Expr.Name (Str.ofString "base") _) _) _ _ _)); kl_some)
 (rename Fr _ _ _ _ => F1; rename News _ _ _ _ => N1; try rename Heap => hz1')
 refine' nameX_F N1 (c := cm) (o := om) rfl ?hm em ?_ rfl rfl
 (case hm => k_mem)
 repeat' ((fail_if_success (with_reducible show wpAny _ _ (eval (Expr.Name (Str.ofString "mapping") _) _) _ _ _)); (fail_if_success (with_reducible show wpAny _ _ (eval (Expr.Name (Str.ofString "base") _) _) _ _ _)); kl_some)
 have D1 : DictAt (dTup prog w) hz1' D l := DD.keep (h' := hz1') (fun o e => by rw [hoD] at e; cases e; exact N1.get (by k_mem)) (tkg.trans fun b o e _ => F1.keep b o e)
 have hkr1 : IsTI hz1' k kr := hkr.tk (tkg.trans fun b o e _ => F1.keep b o e)
 have hfin : ∀ {h' : Heap} {m : Str -> Option Value} {o' : Obj}, Fr g s.heap.objs.size h' m -> News g s.heap.objs.size h' [(D, o'), (cb, ob), (cm, om)] -> OffKeep [D] s.heap h' := fun F' N' => off_end F' Hg (fun q hq => (hNn q hq).1) (by
  refine all3 ?_ ?_ ?_
  ·exact .inl (by omega_side)
  ·exact .inr (N'.get (by k_mem))
  ·exact .inr (N'.get (by k_mem)))
 have hfk : ∀ {h' : Heap}, OffKeep [D] s.heap h' -> TupKeep s.heap h' := fun k' b o e c => k' b o (by simp; rintro rfl; rw [hoD] at e; cases e; have c1 := c.1; rw [cD] at c1; exact absurd c1 (by decide)) e
 by_cases hkl : k ∈ l.map (·.1)
 ·refine in_yes hkl D1 ?_ ⟨kr, rfl, hkr1⟩ fun tk2 => ?_
  ·o_norm
  obtain ⟨⟨k', v⟩, hkv, rfl⟩ := List.mem_map.mp hkl
  obtain ⟨i, hi⟩ := List.mem_iff_getElem?.mp hkv
  obtain ⟨t, rfl⟩ := hN _ _ _ hi
  repeat' ((fail_if_success (with_reducible show wpAny _ _ (eval (Expr.Name (Str.ofString "mapping") _) _) _ _ _)); (fail_if_success (with_reducible show wpAny _ _ (eval (Expr.Name (Str.ofString "base") _) _) _ _ _)); kl_some)
  refine' nameX_F N1 (c := cm) (o := om) rfl ?hm em ?_ rfl rfl
  (case hm => k_mem)
  repeat' ((fail_if_success (with_reducible show wpAny _ _ (eval (Expr.Name (Str.ofString "mapping") _) _) _ _ _)); (fail_if_success (with_reducible show wpAny _ _ (eval (Expr.Name (Str.ofString "base") _) _) _ _ _)); kl_some)
  refine sub_at hkv D1 ?_ ⟨kr, rfl, hkr1⟩ fun tk3 => ?_
  ·o_norm
  repeat' ((fail_if_success (with_reducible show wpAny _ _ (eval (Expr.Name (Str.ofString "mapping") _) _) _ _ _)); (fail_if_success (with_reducible show wpAny _ _ (eval (Expr.Name (Str.ofString "base") _) _) _ _ _)); kl_some)
  (rename Fr _ _ _ _ => Fz2; rename News _ _ _ _ => Nz2; try rename Heap => hzz2)
  have hoff := hfin Fz2 Nz2
  have D2 : DictAt (dTup prog w) hzz2 D l := DD.keep (fun o e => by rw [hoD] at e; cases e; exact Nz2.get (by k_mem)) (hfk hoff)
  exact hR _ _ _ _ l hoff (hfk hoff) D2 hN hkv (.inl rfl)
 ·refine in_no hkl D1 ?_ ⟨kr, rfl, hkr1⟩ fun tk2 => ?_
  ·o_norm
  repeat' ((fail_if_success (with_reducible show wpAny _ _ (eval (Expr.Name (Str.ofString "mapping") _) _) _ _ _)); (fail_if_success (with_reducible show wpAny _ _ (eval (Expr.Name (Str.ofString "base") _) _) _ _ _)); kl_some)
  refine' nameX_F N1 (c := cb) (o := ob) rfl ?hm eb ?_ rfl rfl
  (case hm => k_mem)
  repeat' ((fail_if_success (with_reducible show wpAny _ _ (eval (Expr.Name (Str.ofString "mapping") _) _) _ _ _)); (fail_if_success (with_reducible show wpAny _ _ (eval (Expr.Name (Str.ofString "base") _) _) _ _ _)); kl_some)
  refine' nameX_F N1 (c := cm) (o := om) rfl ?hm em ?_ rfl rfl
  (case hm => k_mem)
  repeat' ((fail_if_success (with_reducible show wpAny _ _ (eval (Expr.Name (Str.ofString "mapping") _) _) _ _ _)); (fail_if_success (with_reducible show wpAny _ _ (eval (Expr.Name (Str.ofString "base") _) _) _ _ _)); kl_some)
  refine len_at D1 (by lia) fun t4 tk4 => ?_
  repeat' ((fail_if_success (with_reducible show wpAny _ _ (eval (Expr.Name (Str.ofString "mapping") _) _) _ _ _)); (fail_if_success (with_reducible show wpAny _ _ (eval (Expr.Name (Str.ofString "base") _) _) _ _ _)); kl_some)
  (rename Fr _ _ _ _ => Fz2; rename News _ _ _ _ => Nz2; try rename Heap => hzz2)
  refine' nameX_F Nz2 (c := cm) (o := om) rfl ?hm em ?_ rfl rfl
  (case hm => k_mem)
  repeat' ((fail_if_success (with_reducible show wpAny _ _ (eval (Expr.Name (Str.ofString "mapping") _) _) _ _ _)); (fail_if_success (with_reducible show wpAny _ _ (eval (Expr.Name (Str.ofString "base") _) _) _ _ _)); kl_some)
  have D2 : DictAt (dTup prog w) hzz2 D l := DD.keep (fun o e => by rw [hoD] at e; cases e; exact Nz2.get (by k_mem)) (hfk (hfin Fz2 Nz2))
  generalize Shared.toks _ = tt at Fz2 ⊢
  have hkr2 : IsTI hzz2 k kr := hkr.tk (hfk (hfin Fz2 Nz2))
  refine setItem_at (dk := dTup prog w) (l := l) (k := k) D2 ?_ ⟨kr, rfl, hkr2⟩ (by rw [sizeLine_eq]; lia) fun h3 tk3 D3 hs3 => ?_
  ·o_norm
  obtain ⟨o3, ho3⟩ : ∃ o3, h3.get? D = some o3 := let ⟨_, est, ept, e, _⟩ := D3; ⟨_, e⟩
  obtain ⟨Fz3, Nz3⟩ := news_hit (pre := []) Fz2 Nz2 (by omega_side) (by simp [hbD, hmD]) hs3 ho3
  dsimp only [List.nil_append] at Nz3
  clear Fz2 Nz2
  repeat' ((fail_if_success (with_reducible show wpAny _ _ (eval (Expr.Name (Str.ofString "mapping") _) _) _ _ _)); (fail_if_success (with_reducible show wpAny _ _ (eval (Expr.Name (Str.ofString "base") _) _) _ _ _)); kl_some)
  (rename Fr _ _ _ _ => F4; rename News _ _ _ _ => N4; try rename Heap => hz4)
  have hoff := hfin F4 N4
  have e3 : setV l k (Value.int (b + l.length) tt) = l ++ [(k, .int (b + l.length) tt)] := by unfold setV; rw [if_neg hkl]
  rw [e3] at D3
  refine hR _ _ _ _ _ hoff (hfk hoff) (D3.keep (fun o e => by rw [ho3] at e; cases e; exact N4.get (by k_mem)) ?_) ?_ (by omega_side) (.inr ⟨hkl, rfl⟩)
  ·exact TupKeep.refl _
  ·intro i k' v' hi
   rcases Nat.lt_or_ge i l.length with q | q
   ·rw [List.getElem?_append_left q] at hi
    exact hN _ _ _ hi
   ·rw [List.getElem?_append_right q] at hi
    have e : i - l.length = 0 := by
     rcases Nat.eq_zero_or_pos (i - l.length) with q | q
     ·exact q
     ·rw [List.getElem?_eq_none q] at hi; cases hi
    rw [e] at hi
    simp at hi
    obtain ⟨rfl, rfl⟩ := hi
    exact ⟨tt, by rw [Nat.le_antisymm (Nat.le_of_sub_eq_zero e) q]⟩
end
-- SetS
section
open PySem PySem.W PyProof.Rows PySem.Calls PySem.Spec
open PySem.SetTable PySem.Builtin.Frozenset
section
variable {prog : Program} {w : World} {lim : Nat}
inductive SetS (prog : Program) (w : World) (lim : Nat) (o : Obj) (l : List Str) : Prop
 | mk : ∀ h a, h.get? a = some o -> SetAt (skStr prog w) lim h a l -> SetS prog w lim o l
theorem SetAt.toS {h : Heap} {a : Addr} {l : List Str} (S : SetAt (skStr prog w) lim h a l) : ∃ o, h.get? a = some o /\ SetS prog w lim o l := by
 refine x12 S.cls fun o ho _ => ?_
 exact ⟨o, ho, h, a, ho, S⟩
theorem SetS.at {h : Heap} {a : Addr} {o : Obj} {l : List Str} (S : SetS prog w lim o l) (e : h.get? a = some o) : SetAt (skStr prog w) lim h a l := by
 obtain ⟨h0, a0, e0, o', es, t, ho, b, hK, r1, r2, r3⟩ := S
 rw [e0] at ho; cases ho
 exact ⟨_, es, t, e, b, hK.mono fun k v hv => hv, r1, r2, r3⟩
end
section
variable {prog : Program} {w : World} {A : Around} {E : Value -> Shared -> Prop} {s : Shared}
noncomputable def UpI (prog : Program) (w : World) (s : Shared) (a : Addr) (l : List Str) (ld : List (Str × Value)) (n : Nat) (rest : List Nat) (G : Shared -> Prop) : Prop := ∀ i h' l', rest = List.range' i (n - i) -> i ≤ n -> Heap.SameBut a s.heap h' -> SetAt (skStr prog w) 7 h' a l' -> (∀ k, k ∈ l' ↔ k ∈ l ∨ k ∈ (ld.take i).map (·.1)) -> G { s with heap := h' }
theorem updateFrom_dict {a d : Addr} {l : List Str} {ld : List (Str × Value)} {Q : Unit -> Shared -> Prop} (S : SetAt (skStr prog w) 7 s.heap a l) (D : DictAt (dStr prog w) s.heap d ld) (hu : A.units < cLine)
  (hun : ∀ m : List Str, m.Nodup -> (∀ k ∈ m, k ∈ l ∨ k ∈ ld.map (·.1)) -> m.length ≤ 7)
  (h : ∀ h' l', Heap.SameBut a s.heap h' -> SetAt (skStr prog w) 7 h' a l' -> (∀ k, k ∈ l' ↔ k ∈ l ∨ k ∈ ld.map (·.1)) -> Q () { s with heap := h' }) :
  wpAny (model prog w) A (updateFrom "set.update" a (.ref d)) Q E s := by
 have hT := D.typeIs
 have hle := S.le
 obtain ⟨hsm, es, ep, ho, hE, hn⟩ := D
 have had : a ≠ d := by
  rintro rfl
  refine x13 S.cls fun o' ho' hc _ => ?_
  rw [ho] at ho'; cases ho'
  exact absurd (show Value.type "dict" = Value.type "set" from hc) (by decide)
 have hlen := hE.length
 rw [Array.length_toList] at hlen
 have hld : ld.length ≤ 7 := by
  have := hun (ld.map (·.1)) hn (fun k hk => .inr hk)
  simpa using this
 skip
 refine wpAny_bind (anySet_no hT sub_dict_set sub_dict_frozenset ?_)
 refine wpAny_ite_false (by first | rfl | rfl) ?_
 refine wpAny_bind (wpAny_typeOf hT ?_)
 refine wpAny_ite_true (decide_eq_true (by rfl)) ?_
 refine wpAny_bind (wpAny_rule ?_)
 refine wpAny_bind (m := addrOf (.ref d)) (wpAny_pure (a := d) ?_)
 refine wpAny_ite_false (decide_eq_false (by simpa using hsm)) ?_
 refine wpAny_bind (wpAny_dictEpoch ho rfl ?_)
 refine wpAny_bind (wpAny_dictEntries ho rfl ?_)
 refine wpAny_bind (roomFor_at S (by lia) (by decide) fun h1 o1 es1 t1 l1 hs1 ho1 b1 hK1 hp1 hled1 hpl1 hbig => ?_)
 have S1 : SetAt (skStr prog w) 7 h1 a l1 := ⟨o1, es1, t1, ho1, b1, hK1, by
  obtain ⟨_, _, _, _, _, _, hn, _⟩ := S
  exact hp1.nodup_iff.mpr hn, fun _ _ => trivial, hled1, hpl1⟩
 have hd1 : h1.get? d = some (dictO es ep) := (hs1.2 d (Ne.symm had)).trans ho
 refine wpAny_bind (wpAny_dictEntries (s := { s with heap := h1 }) hd1 rfl ?_)
 refine wpAny_bind ?_
 rw [Std.Legacy.Range.forIn_eq_forIn_range']
 refine wpAny_forIn_list _ (fun rest (_ : PUnit) s' => Chu (UpI prog w s a l ld es.size rest) s') _ ?_ ?_ _ _ ?_
 ·rintro x rest _ s' q80; refine Chu.out q80 ?_; intro i h' l' hr hi hs' S' hl'
  have hlt : i < es.size := by
   refine Or.elim (Nat.lt_or_ge i es.size) (fun q => ?_) fun q => ?_
   ·exact q
   ·rw [Nat.sub_eq_zero_of_le q] at hr; cases hr
  rw [sub_s hlt, List.range'_succ] at hr
  injection hr with hx hr
  subst hx
  have hd' : h'.get? d = some (dictO es ep) := (hs'.2 d (Ne.symm had)).trans ho
  refine wpAny_bind (wpAny_dictEntries (s := { s with heap := h' }) hd' rfl ?_)
  rcases hE.get x with ⟨q, _⟩ | ⟨e, k, q1, q2, q3, t, q4⟩
  ·rw [Array.getElem?_toList, Array.getElem?_eq_getElem hlt] at q; cases q
  rw [Array.getElem?_toList] at q1
  refine (q1).symm ▸ ?_
  dsimp only
  have hkm : k ∈ ld.map (·.1) := List.mem_map.mpr ⟨_, List.mem_of_getElem? q2, rfl⟩
  have htk : (ld.take (x + 1)).map (·.1) = (ld.take x).map (·.1) ++ [k] := by rw [List.take_add_one, q2, List.map_append]; rfl
  refine (q3).symm ▸ ?_
  refine wpAny_bind (wpAny_holding (S'.addW (s := { s with heap := h' }) (k := k) hu trivial ⟨t, q4⟩ (fun hk => ?_) fun h2 l2 b hs2 hl2 S2 => ?_))
  ·have hnd : (k :: l').Nodup := by
    obtain ⟨_, _, _, _, _, _, hn, _⟩ := S'
    exact List.nodup_cons.mpr ⟨hk, hn⟩
   have := hun (k :: l') hnd (fun y hy => by
    rcases List.mem_cons.mp hy with rfl | hy
    ·exact .inr hkm
    ·refine Or.elim ((hl' y).mp hy) (fun q => ?_) fun q => ?_
     ·exact .inl q
     ·refine x12 (List.mem_map.mp q) fun z hz q91 => ?_; subst q91
      exact .inr (List.mem_map_of_mem (List.mem_of_mem_take hz)))
   simpa using this
  ·have hd2 : h2.get? d = some (dictO es ep) := (hs2.2 d (Ne.symm had)).trans hd'
   refine wpAny_bind (wpAny_dictEpoch (s := { s with heap := h2 }) hd2 rfl ?_)
   refine wpAny_ite_false (by first | rfl | simp) ?_
   refine wpAny_pure (fun _ k9 => k9 (x + 1) h2 l2 hr hlt (hs'.trans hs2) S2 fun y => ?_)
   rw [mem_added hl2, hl', htk, List.mem_append, List.mem_singleton]
   exact ⟨fun q => q.elim (fun e => .inr (.inr e)) fun q => q.elim .inl fun q => .inr (.inl q), fun q => q.elim (fun q => .inr (.inl q)) fun q => q.elim (fun q => .inr (.inr q)) .inl⟩
 ·rintro _ s' q80; refine Chu.out q80 ?_; intro i h' l' hr hi hs' S' hl'
  have hie : i = es.size := by
   refine Or.elim (Nat.lt_or_ge i es.size) (fun q => ?_) fun q => ?_
   ·rw [sub_s q, List.range'_succ] at hr; cases hr
   ·exact Nat.le_antisymm hi q
  refine wpAny_pure (h h' l' hs' S' fun k => ?_)
  rw [hl', hie, hlen, List.take_length]
 ·exact fun _ k9 => k9 0 h1 l1 (by simp [Std.Legacy.Range.size]) (Nat.zero_le _) hs1 S1 fun k => by rw [hp1.mem_iff]; simp
theorem call_update_dict {a d : Addr} {l : List Str} {ld : List (Str × Value)} {Q : Value -> Shared -> Prop} (S : SetAt (skStr prog w) 7 s.heap a l) (D : DictAt (dStr prog w) s.heap d ld) (hu : A.in1.units < cLine)
  (hun : ∀ m : List Str, m.Nodup -> (∀ k ∈ m, k ∈ l ∨ k ∈ ld.map (·.1)) -> m.length ≤ 7)
  (h : ∀ h' o' l', Heap.SameBut a s.heap h' -> h'.get? a = some o' -> SetS prog w 7 o' l' -> (∀ k, k ∈ l' ↔ k ∈ l ∨ k ∈ ld.map (·.1)) -> Q .none { s with heap := h' }) :
  wpAny (model prog w) A (call (.builtin "set.update") [.ref a, .ref d]) Q E s := by
 refine wpAny_call_entry PySem.F.slot_set_update S.typeIs F.entry_set_update ?_ (F.args_set_update_2 _ _)
 skip
 refine wpAny_bind (m := manyOthers "update" _) (wpAny_pure (a := (a, [Value.ref d])) ?_)
 dsimp only
 rw [List.forIn_cons]
 refine wpAny_bind (wpAny_bind (wpAny_bind (updateFrom_dict S D hu hun fun h' l' hs S' hm => ?_)))
 refine wpAny_pure ?_
 dsimp only
 rw [List.forIn_nil]
 refine x12 S'.toS fun o ho SS => ?_
 exact wpAny_pure (wpAny_pure ⟨_, rfl, h h' o l' hs ho SS hm⟩)
end
end
-- NLabels
section
open PySem PySem.W PyProof.Rows PySem.Calls
theorem off_NLabels : True := by
 w_top off
 trivial
noncomputable def NlA (prog : Program) (w : World) (x : Addr) (dx : Addr) (t : Addr) (f : Addr) (ds : Addr) (i : Int) (ti : Tok) (t1 : Tok) (t2 : Tok) (t3 : Tok) (n : Nat) (Ar : Int -> Str -> Int -> Prop) (ns : List Int) (j : Nat) (m : Str -> Option Value) (G9 : List (Addr × Obj) -> Prop) : Prop := ∀ (o : Obj) (l : List Str) (q0 : m (Str.ofString "transitions") = some (.ref t)) (q1 : m (Str.ofString "labels") = some (.ref ds)) (q3 : SetS prog w 7 o l) (q4 : ∀ lab, lab ∈ l ↔ ∃ a ∈ ns.take j, ∃ b, Ar a lab b), G9 [(ds, o), (x, instObj 229 dx), (dx, nfaD w t f (.int i ti) t1 t2 t3 n)]
variable {prog : Program} {w : World} {p : Program} {loose : List Str} {mean : ExcName -> Option Value} {mg mb : Str -> Option Value} {hz0 hq : Heap}
variable {s : Shared} {dp un : Nat} {fr : List Env} {gd : Option (List Code)} {R : Result -> Shared -> Prop}
variable {x dx t f : Addr} {i : Int} {Ar : Int -> Str -> Int -> Prop} {Fin : Int -> Prop} {t1 t2 t3 ti : Tok} {n : Nat}
theorem n_labels {ns : List Int} {st : Addr} (H : Base (hd.heap_1 w.params) p loose mean mg mb hz0) (hk : ∀ b o, hz0.get? b = some o -> s.heap.get? b = some o)
  (V : NfaAt prog w hz0 hq s.heap x i Ar Fin dx t f t1 t2 t3 ti n) (hst : IsTI s.heap ns st) (hlab : ∀ m : List Str, m.Nodup -> (∀ k ∈ m, ∃ a b, Ar a k b) -> m.length ≤ 7)
  (hd1 : dp + 9 < recursionLimit) (hu : un + 40 < cLine)
  (hR : ∀ h' tk dr r o ls, (∀ b o, s.heap.get? b = some o -> h'.get? b = some o) -> s.heap.get? r = none -> h'.get? r = some o -> SetS prog w 7 o ls -> (∀ lab, lab ∈ ls ↔ ∃ a ∈ ns, ∃ b, Ar a lab b) -> R (.ok (.ret (.ref r))) { s with heap := h', toks := tk, drawn := dr }) :
  codeAny (model prog w) (A0 dp un fr gd) (.call (.ref 205) ⟨[.ref x, .ref st], []⟩) R s := by
 have hN := V.led
 k_dflt (apply enter; assumption; assumption; assumption; k_is; k_is; exact Nat.lt_of_le_of_lt (Nat.le_add_right _ _) (by assumption); exact BindsTo.of_eq rfl; exact locs rfl; exact rfl; exact rfl; exact rfl; decide; k_whole; intro _ _ _ _ _ _ _ _ _; (try dsimp only); (try k_fold))
 rename_i g hz1 Hg Hs Hk F N X T
 have tkg := tk_hide Hg (fun q hq => (hN q hq).1) V.ledT
 have subg := sub_hide Hg V.sub V.ledQ
 have hstg : IsTI g ns st := hst.tk tkg
 obtain ⟨lt, Dt, t1', t2'⟩ := V.T.stay subg
 o_steps
 (rename Fr _ _ _ _ => F1; rename News _ _ _ _ => N1; try rename Heap => hz1')
 refine call_set0 (sk := skStr prog w) (lim := 7) (by decide) fun h2 ds hk2 hr2 S2 => ?_
 refine x12 S2.toS fun o2 ho2 SI2 => ?_
 have Fz2 := fr_stay F1 hk2
 have Nz2 := news_cons (news_stay N1 hk2) ho2 (fresh_off F1 hr2).1 (fresh_off F1 hr2).2
 have e1 : ds ≠ x := ne_get (N1.get (by k_mem)) hr2
 have e2 : ds ≠ dx := ne_get (N1.get (by k_mem)) hr2
 have e3 : s.heap.get? ds = none := none_sub (keep_all F1 N1 Hg hN (by k_mem) (by k_mem)) hr2
 clear F1 N1
 o_steps
 (rename Fr _ _ _ _ => Fz3; rename News _ _ _ _ => Nz3; try rename Heap => hz3)
 refine For_my (hs := fun _ => rfl) (ht := fun _ _ => rfl) g ?_
 o_steps
 refine iter_tup (ns := ns) (fun j m news _ => Chu (NlA prog w x dx t f ds i ti t1 t2 t3 n Ar ns j m) news) hstg rfl Fz3 Nz3 ?_ ?_ ?_ ?_
 ·exact (fun _ k9 => k9 o2 ([]) rfl rfl SI2 (fun b => by simp))
 ·exact fun _ _ _ _ _ hJ _ => hJ
 ·rintro I j k tv mz1 news1 hz4 tk dr own hjk hJ9
  refine Chu.out hJ9 ?_
  clear hJ9
  rintro o l m3 m4 SI hl hav hown F4 N4
  refine stepMy_hide fun G hG => ?_
  have F4 := fr_put (Str.ofString "transitions") (fr_put (Str.ofString "labels") F4 m4) (by exact m3)
  dsimp only [List.cons_append, List.nil_append] at N4
  have htk : ∀ lab, (∃ a ∈ ns.take (j + 1), ∃ b, Ar a lab b) ↔ (∃ a ∈ ns.take j, ∃ b, Ar a lab b) ∨ ∃ b, Ar k lab b := fun lab => by
   have e : ns.take (j + 1) = ns.take j ++ [k] := by rw [List.take_add_one, hjk]; rfl
   rw [e]
   constructor
   ·rintro q82; refine x12 q82 fun a ha q => ?_
    rcases List.mem_append.mp ha with r | r
    ·exact .inl ⟨a, r, q⟩
    ·simp at r; subst r; exact .inr q
   ·rintro (⟨a, ha, q⟩ | q)
    ·exact ⟨a, List.mem_append_left _ ha, q⟩
    ·exact ⟨k, by simp, q⟩
  refine wpAny_assign_Name ?_
  o_steps
  (rename Fr _ _ _ _ => F5; rename News _ _ _ _ => N5; try rename Heap => hz5)
  have havd : ds ∉ [I, st] := hav (ds, o) (by omega_side)
  have hpost : ∀ q ∈ ((x, instObj 229 dx) :: (dx, nfaD w t f (.int i ti) t1 t2 t3 n) :: own), q.1 ≠ ds := by
   intro q hq'
   rcases List.mem_cons.mp hq' with rfl | hq'
   ·exact Ne.symm e1
   ·rcases List.mem_cons.mp hq' with rfl | hq'
    ·exact Ne.symm e2
    ·exact fun e => havd (e ▸ hown q hq')
  have hav' : ∀ o', ∀ q ∈ [(ds, o'), (x, instObj 229 dx), (dx, nfaD w t f (.int i ti) t1 t2 t3 n)], q.1 ∉ [I, st] := by
   intro o' q hq'
   rcases List.mem_cons.mp hq' with rfl | hq'
   ·exact havd
   ·exact hav q (List.mem_cons_of_mem _ hq')
  by_cases hkt : k ∈ lt.map (·.1)
  ·(apply in_yes hkt; exact (Dt.fr F5); (o_norm; exact ⟨_, rfl⟩; intro _))
   obtain ⟨⟨k', v⟩, hkv, rfl⟩ := List.mem_map.mp hkt
   obtain ⟨d, li, Di, -, t3', t4'⟩ := t1' _ _ hkv
   have hkeys : ∀ lab, lab ∈ li.map (·.1) ↔ ∃ b, Ar k' lab b := fun lab => ⟨fun h => by
    obtain ⟨⟨la, u⟩, hm, rfl⟩ := List.mem_map.mp h
    obtain ⟨sa, xs, _, hne, hxs⟩ := t3' _ _ hm
    refine x21 (List.exists_cons_of_ne_nil hne) fun b r q95 => ?_; subst q95
    exact ⟨b, (hxs b).mp (by omega_side)⟩, fun q83 => x11 q83 fun b h => t4' _ _ h⟩
   o_steps
   refine meth_set (SI.at (N5.get (by k_mem))) PySem.F.slot_set_update PySem.F.type_set_update ?_
   o_steps
   (apply sub_at hkv; exact (Dt.fr F5); (o_norm; exact ⟨_, rfl⟩; intro _))
   o_steps
   refine call_update_dict (l := l) (ld := li) ?_ ?_ ?_ ?_ fun h8 o8 l8 hs8 ho8 S8 hl8 => ?_
   ·exact SI.at (N5.get (by k_mem))
   ·exact Di.fr F5
   ·o_norm
   ·exact fun m hm hmm => hlab m hm fun q hq => (hmm q hq).elim (fun h => by obtain ⟨a, _, b, r⟩ := (hl q).mp h; exact ⟨a, b, r⟩) fun h => ⟨_, (hkeys q).mp h⟩
   refine x02 (news_hit (pre := []) F5 N5 (by omega_side) hpost hs8 ho8) fun F8 N8 => ?_
   dsimp only [List.nil_append] at N8
   clear F5 N5
   o_steps
   refine hG _ _ _ _ [(ds, o8), (x, instObj 229 dx), (dx, nfaD w t f (.int i ti) t1 t2 t3 n)] F8 N8 (hav' o8) (fun _ k9 => k9 o8 l8 rfl rfl S8 (fun b => ?_))
   rw [hl8, hl, hkeys, htk]
  ·(apply in_no hkt; exact (Dt.fr F5); (o_norm; exact ⟨_, rfl⟩; intro _))
   o_steps
   refine hG _ _ _ _ [(ds, o), (x, instObj 229 dx), (dx, nfaD w t f (.int i ti) t1 t2 t3 n)] F5 N5 (hav' o) (fun _ k9 => k9 o l rfl rfl SI (fun b => ?_))
   rw [hl, htk]
   exact ⟨.inl, fun h => h.elim id fun q84 => x11 q84 fun _ h => absurd (t2' _ _ _ h) hkt⟩
 ·rintro mz1 news1 hz4 tk dr hJ9
  refine Chu.out hJ9 ?_
  clear hJ9
  rintro o l m3 m4 SI hl F4 N4
  have F4 := fr_put (Str.ofString "transitions") (fr_put (Str.ofString "labels") F4 m4) (by exact m3)
  dsimp only
  o_steps
  refine hR _ _ _ ds o l (keep_all F4 N4 Hg hN (by k_mem) (by k_mem)) e3 (N4.get (by k_mem)) SI fun lab => ?_
  rw [hl, List.take_length]
end
-- TdPure
section
open PySem
structure DFor (Ar : Int -> Str -> Int -> Prop) (i : Int) (Fin : Int -> Prop) (M : DMod (List Int)) (Dn : List Int -> Prop) (Fr Se : List (List Int)) (k : List Int) (pre : List Str) : Prop where
 good : DGood Ar i Fin M
 done : ∀ a, Dn a -> DDone Ar Fin M a
 vals : ∀ a lab, Dn a -> lab ≠ EPS -> HasL Ar a lab -> nextL Ar a lab ∈ Se
 seen : ∀ a ∈ Se, Dn a ∨ a ∈ Fr ∨ a = k
 start : Dn (startL Ar i) ∨ startL Ar i ∈ Fr ∨ startL Ar i = k
 okF : ∀ a ∈ Fr, dom4 a /\ a ≠ []
 okS : ∀ a ∈ Se, dom4 a /\ a ≠ []
 c1 : ∀ lab ∈ pre, lab ≠ EPS -> lab ≠ ANYS -> M.tr k lab = some (nextL Ar k lab)
 c2 : ANYS ∈ pre -> M.df k = some (nextL Ar k ANYS)
 c3 : (∃ b ∈ k, Fin b) -> M.fin k
 c4 : ∀ lab ∈ pre, lab ≠ EPS -> nextL Ar k lab ∈ Se
section
variable {Ar : Int -> Str -> Int -> Prop} {i : Int} {Fin : Int -> Prop} {M : DMod (List Int)} {Dn : List Int -> Prop} {Fr Se Se' : List (List Int)} {k v : List Int} {pre : List Str} {lab : Str}
theorem DGood.addFin (G : DGood Ar i Fin M) (hv : ∃ b ∈ v, Fin b) : DGood Ar i Fin { M with fin := fun a => a = v ∨ M.fin a } :=
 ⟨G.k0, G.tr1, G.df1, fun a h => h.elim (fun e => e ▸ hv) (G.fin1 a)⟩
theorem DDone.addFin {a : List Int} (D : DDone Ar Fin M a) : DDone Ar Fin { M with fin := fun a => a = v ∨ M.fin a } a := ⟨D.tr2, D.df2, fun h => .inr (D.fin2 h)⟩
theorem DWh.popFin (I : DWh Ar i Fin M Dn (Fr ++ [k]) Se) (hk : ∃ b ∈ k, Fin b) : DFor Ar i Fin { M with fin := fun a => a = k ∨ M.fin a } Dn Fr Se k [] where
 good := I.good.addFin hk
 done := fun a ha => (I.done a ha).addFin
 vals := I.vals
 seen := fun a ha => (I.seen a ha).elim .inl fun h => (List.mem_append.mp h).elim (fun h => .inr (.inl h)) fun h => .inr (.inr (by simpa using h))
 start := I.start.elim .inl fun h => (List.mem_append.mp h).elim (fun h => .inr (.inl h)) fun h => .inr (.inr (by simpa using h))
 okF := fun a ha => I.okF a (List.mem_append_left _ ha)
 okS := I.okS
 c1 := fun _ h => nomatch h
 c2 := fun h => nomatch h
 c3 := fun _ => .inl rfl
 c4 := fun _ h => nomatch h
theorem DWh.popNo (I : DWh Ar i Fin M Dn (Fr ++ [k]) Se) (hk : ¬ ∃ b ∈ k, Fin b) : DFor Ar i Fin M Dn Fr Se k [] where
 good := I.good
 done := I.done
 vals := I.vals
 seen := fun a ha => (I.seen a ha).elim .inl fun h => (List.mem_append.mp h).elim (fun h => .inr (.inl h)) fun h => .inr (.inr (by simpa using h))
 start := I.start.elim .inl fun h => (List.mem_append.mp h).elim (fun h => .inr (.inl h)) fun h => .inr (.inr (by simpa using h))
 okF := fun a ha => I.okF a (List.mem_append_left _ ha)
 okS := I.okS
 c1 := fun _ h => nomatch h
 c2 := fun h => nomatch h
 c3 := fun h => absurd h hk
 c4 := fun _ h => nomatch h
theorem DFor.eps (I : DFor Ar i Fin M Dn Fr Se k pre) : DFor Ar i Fin M Dn Fr Se k (pre ++ [EPS]) := { I with
 c1 := fun lab h h1 h2 => (List.mem_append.mp h).elim (fun h => I.c1 lab h h1 h2) fun h => absurd (by simpa using h) h1
 c2 := fun h => (List.mem_append.mp h).elim I.c2 fun h => absurd (show ANYS = EPS by simpa using h) (by decide)
 c4 := fun lab h h1 => (List.mem_append.mp h).elim (fun h => I.c4 lab h h1) fun h => absurd (by simpa using h) h1 }
theorem DFor.fin (I : DFor Ar i Fin M Dn Fr Se k pre) (hv : ∃ b ∈ v, Fin b) : DFor Ar i Fin { M with fin := fun a => a = v ∨ M.fin a } Dn Fr Se k pre := { I with
 good := I.good.addFin hv
 done := fun a ha => (I.done a ha).addFin
 c1 := I.c1
 c2 := I.c2
 c3 := fun h => .inr (I.c3 h) }
theorem DFor.new (I : DFor Ar i Fin M Dn Fr Se k pre) (hs : ∀ a, a ∈ Se' ↔ a = v ∨ a ∈ Se) (hv : dom4 v /\ v ≠ []) : DFor Ar i Fin M Dn (Fr ++ [v]) Se' k pre := { I with
 vals := fun a lab h1 h2 h3 => (hs _).mpr (.inr (I.vals a lab h1 h2 h3))
 seen := fun a ha => ((hs a).mp ha).elim (fun e => .inr (.inl (by simp [e]))) fun h => (I.seen a h).elim .inl fun h => .inr (h.elim (fun h => .inl (List.mem_append_left _ h)) .inr)
 start := I.start.elim .inl fun h => .inr (h.elim (fun h => .inl (List.mem_append_left _ h)) .inr)
 okF := fun a ha => (List.mem_append.mp ha).elim (I.okF a) fun h => (by simp at h; exact h ▸ hv)
 okS := fun a ha => ((hs a).mp ha).elim (fun e => e ▸ hv) (I.okS a)
 c4 := fun lab h h1 => (hs _).mpr (.inr (I.c4 lab h h1)) }
theorem DFor.any (I : DFor Ar i Fin M Dn Fr Se k pre) (hl : HasL Ar k ANYS) (hv : nextL Ar k ANYS ∈ Se) : DFor Ar i Fin { M with df := fun a => if a = k then some (nextL Ar k ANYS) else M.df a } Dn Fr Se k (pre ++ [ANYS]) := { I with
 good := ⟨I.good.k0, I.good.tr1, fun a v h => by
  dsimp only at h
  split at h
  ·rename_i e; subst e; cases h; exact ⟨hl, rfl⟩
  ·exact I.good.df1 a v h, I.good.fin1⟩
 done := fun a ha => ⟨(I.done a ha).tr2, fun h => by
  dsimp only
  split
  ·rename_i e; rw [e]
  ·exact (I.done a ha).df2 h, (I.done a ha).fin2⟩
 c1 := fun lab h h1 h2 => (List.mem_append.mp h).elim (fun h => I.c1 lab h h1 h2) fun h => absurd (by simpa using h) h2
 c2 := fun _ => by dsimp only; rw [if_pos rfl]
 c3 := I.c3
 c4 := fun lab h h1 => (List.mem_append.mp h).elim (fun h => I.c4 lab h h1) fun h => (by simp at h; rw [h]; exact hv) }
theorem DFor.arc (I : DFor Ar i Fin M Dn Fr Se k pre) (h1 : lab ≠ EPS) (h2 : lab ≠ ANYS) (hl : HasL Ar k lab) (hv : nextL Ar k lab ∈ Se) : DFor Ar i Fin { M with tr := fun a lab' => if a = k /\ lab' = lab then some (nextL Ar k lab) else M.tr a lab' } Dn Fr Se k (pre ++ [lab]) := { I with
 good := ⟨I.good.k0, fun a lab' v h => by
  dsimp only at h
  split at h
  ·rename_i e; obtain ⟨rfl, rfl⟩ := e; cases h; exact ⟨h1, h2, hl, rfl⟩
  ·exact I.good.tr1 a lab' v h, I.good.df1, I.good.fin1⟩
 done := fun a ha => ⟨fun lab' q1 q2 q3 => by
  dsimp only
  split
  ·rename_i e; obtain ⟨rfl, rfl⟩ := e; rfl
  ·exact (I.done a ha).tr2 lab' q1 q2 q3, (I.done a ha).df2, (I.done a ha).fin2⟩
 c1 := fun lab' h q1 q2 => by
  dsimp only
  split
  ·rename_i e; rw [e.2]
  ·rename_i e
   rcases List.mem_append.mp h with h | h
   ·exact I.c1 lab' h q1 q2
   ·exact absurd ⟨rfl, by simpa using h⟩ e
 c2 := fun h => (List.mem_append.mp h).elim I.c2 fun h => absurd (show lab = ANYS by simpa using (Eq.symm (by simpa using h : ANYS = lab))) h2
 c3 := I.c3
 c4 := fun lab' h q1 => (List.mem_append.mp h).elim (fun h => I.c4 lab' h q1) fun h => (by simp at h; rw [h]; exact hv) }
theorem DFor.end (I : DFor Ar i Fin M Dn Fr Se k pre) (hp : ∀ lab, HasL Ar k lab -> lab ∈ pre) : DWh Ar i Fin M (fun a => Dn a ∨ a = k) Fr Se where
 good := I.good
 done := fun a ha => ha.elim (I.done a) fun e => e ▸ ⟨fun lab h1 h2 h3 => I.c1 lab (hp lab h3) h1 h2, fun h => I.c2 (hp _ h), I.c3⟩
 vals := fun a lab ha h1 h2 => ha.elim (fun ha => I.vals a lab ha h1 h2) fun e => by subst e; exact I.c4 lab (hp lab h2) h1
 seen := fun a ha => (I.seen a ha).elim (fun h => .inl (.inl h)) fun h => h.elim .inr fun h => .inl (.inr h)
 start := I.start.elim (fun h => .inl (.inl h)) fun h => h.elim .inr fun h => .inl (.inr h)
 okF := I.okF
 okS := I.okS
end
noncomputable abbrev M0 (Ar : Int -> Str -> Int -> Prop) (i : Int) : DMod (List Int) := ⟨startL Ar i, fun _ _ => none, fun _ => none, fun _ => False, fun k => dom4 k /\ k ≠ [], fun lab => ∃ a b, Ar a lab b⟩
theorem DWh.first {Ar : Int -> Str -> Int -> Prop} {i : Int} {Fin : Int -> Prop} {gk : List Int -> Prop} {gl : Str -> Prop} (hU : Small U4 i Ar) : DWh Ar i Fin ⟨startL Ar i, fun _ _ => none, fun _ => none, fun _ => False, gk, gl⟩ (fun _ => False) [startL Ar i] [] where
 good := ⟨rfl, (fun _ _ _ h => nomatch h), (fun _ _ h => nomatch h), fun _ h => h.elim⟩
 done := fun _ h => h.elim
 vals := fun _ _ h => h.elim
 seen := fun _ h => nomatch h
 start := .inr (by simp)
 okF := fun a ha => by simp at ha; subst ha; exact ⟨startL_dom hU, startL_ne hU⟩
 okS := fun _ h => nomatch h
end
-- ToDfa
section
open PySem PySem.W PyProof.Rows PySem.Calls
theorem off_ToDfa : True := by
 w_top off
 trivial
noncomputable def TdA (prog : Program) (w : World) (hz0 : Heap) (g : Heap) (s : Shared) (x : Addr) (dx : Addr) (t : Addr) (f : Addr) (t1 : Tok) (t2 : Tok) (t3 : Tok) (ti : Tok) (i : Int) (n : Nat) (Ar : Int -> Str -> Int -> Prop) (Fin : Int -> Prop) (xd : Addr) (l1 : Addr) (sd : Addr) (k9 : Nat) (m : Str -> Option Value) (G9 : List (Addr × Obj) -> Prop) : Prop := ∀ (hX : Heap) (mX : Str -> Option Value) (arr : List Value) (c : Nat) (Fl Se : List (List Int)) (Dn : List Int -> Prop) (Y : DLay (List Int)) (M : DMod (List Int)) (P : Addr -> Prop) (q0 : k9 = Fl.length + 2 * (16 - Se.length)) (q1 : Fl.length ≤ Se.length + 1) (q2 : m (Str.ofString "self") = some (.ref x)) (q3 : m (Str.ofString "dfa") = some (.ref xd)) (q4 : m (Str.ofString "frontier") = some (.ref l1)) (q5 : m (Str.ofString "seen") = some (.ref sd)) (q7 : TdSt prog w Ar hz0 g s.heap s.heap.objs.size sd xd [(l1, listO arr.toArray c), (x, instObj 229 dx), (dx, nfaD w t f (.int i ti) t1 t2 t3 n)] arr Fl Se Y M P hX mX) (q8 : (∃ b, Y.v0 = .ref b)) (q9 : DWh Ar i Fin M Dn Fl Se), G9 ((l1, listO arr.toArray c) :: (x, instObj 229 dx) :: (dx, nfaD w t f (.int i ti) t1 t2 t3 n) :: allOf g s.heap.objs.size [l1, x, dx] hX)
noncomputable def TdB (prog : Program) (w : World) (hz0 : Heap) (g : Heap) (s : Shared) (x : Addr) (dx : Addr) (t : Addr) (f : Addr) (t1 : Tok) (t2 : Tok) (t3 : Tok) (ti : Tok) (i : Int) (n : Nat) (Ar : Int -> Str -> Int -> Prop) (Fin : Int -> Prop) (xd : Addr) (l1 : Addr) (sd : Addr) (c' : Nat) (pre : List Value) (Fl' : List (List Int)) (Se : List (List Int)) (Dn : List Int -> Prop) (k : List Int) (b : Addr) (m11 : Str -> Option Value) (G9 : Shared -> Prop) : Prop := ∀ (h : Heap) (tk : Nat) (dr : Drawn) (Y : DLay (List Int)) (M : DMod (List Int)) (P : Addr -> Prop) (q1 : TdSt prog w Ar hz0 g s.heap s.heap.objs.size sd xd [(l1, listO pre.toArray c'), (x, instObj 229 dx), (dx, nfaD w t f (.int i ti) t1 t2 t3 n)] pre Fl' Se Y M P h m11) (q2 : IsTI h k b) (q3 : (∃ b, Y.v0 = .ref b)) (q4 : DFor Ar i Fin M Dn Fl' Se k []), G9 { s with heap := h, toks := tk, drawn := dr }
noncomputable def TdC (prog : Program) (w : World) (hz0 : Heap) (g : Heap) (s : Shared) (x : Addr) (dx : Addr) (t : Addr) (f : Addr) (t1 : Tok) (t2 : Tok) (t3 : Tok) (ti : Tok) (i : Int) (n : Nat) (Ar : Int -> Str -> Int -> Prop) (Fin : Int -> Prop) (xd : Addr) (l1 : Addr) (sd : Addr) (Dn : List Int -> Prop) (k : List Int) (b : Addr) (h18 : Heap) (rs : Addr) (n0 : Nat) (lss : List Str) (j : Nat) (m : Str -> Option Value) (G9 : List (Addr × Obj) -> Prop) : Prop := ∀ (hX : Heap) (mX : Str -> Option Value) (own : List (Addr × Obj)) (arr : List Value) (c : Nat) (Fl Se : List (List Int)) (Y : DLay (List Int)) (M : DMod (List Int)) (P : Addr -> Prop) (q0 : m (Str.ofString "self") = some (.ref x)) (q1 : m (Str.ofString "dfa") = some (.ref xd)) (q2 : m (Str.ofString "frontier") = some (.ref l1)) (q3 : m (Str.ofString "seen") = some (.ref sd)) (q4 : m (Str.ofString "current") = some (.ref b)) (q6 : TdSt prog w Ar hz0 g s.heap s.heap.objs.size sd xd ([(l1, listO arr.toArray c), (x, instObj 229 dx), (dx, nfaD w t f (.int i ti) t1 t2 t3 n)] ++ own) arr Fl Se Y M P hX mX) (q7 : IsTI hX k b) (q8 : (∃ b, Y.v0 = .ref b)) (q9 : (∀ a ∈ [h18.objs.size, rs], a ∈ own.map (·.1) ∨ hX.get? a = none)) (q10 : Fl.length ≤ Se.length + 1) (q11 : Fl.length + 2 * (16 - Se.length) < n0) (q12 : DFor Ar i Fin M Dn Fl Se k (lss.take j)), G9 ([(l1, listO arr.toArray c), (x, instObj 229 dx), (dx, nfaD w t f (.int i ti) t1 t2 t3 n)] ++ allOf g s.heap.objs.size (([(l1, listO arr.toArray c), (x, instObj 229 dx), (dx, nfaD w t f (.int i ti) t1 t2 t3 n)] ++ own).map (·.1)) hX)
noncomputable def TdD (prog : Program) (w : World) (hz0 : Heap) (g : Heap) (s : Shared) (x : Addr) (dx : Addr) (t : Addr) (f : Addr) (t1 : Tok) (t2 : Tok) (t3 : Tok) (ti : Tok) (i : Int) (n : Nat) (Ar : Int -> Str -> Int -> Prop) (Fin : Int -> Prop) (xd : Addr) (l1 : Addr) (sd : Addr) (Dn : List Int -> Prop) (k : List Int) (b : Addr) (n0 : Nat) (lss : List Str) (own : List (Addr × Obj)) (lab : Str) (b2 : Addr) (m22 : Str -> Option Value) (j : Nat) (G9 : Shared -> Prop) : Prop := ∀ (h : Heap) (tk : Nat) (dr : Drawn) (arr : List Value) (c : Nat) (Fl Se : List (List Int)) (Y : DLay (List Int)) (M : DMod (List Int)) (P : Addr -> Prop) (q1 : TdSt prog w Ar hz0 g s.heap s.heap.objs.size sd xd ([(l1, listO arr.toArray c), (x, instObj 229 dx), (dx, nfaD w t f (.int i ti) t1 t2 t3 n)] ++ own) arr Fl Se Y M P h m22) (q2 : IsTI h k b) (q3 : IsTI h (nextL Ar k lab) b2) (q4 : (∃ b, Y.v0 = .ref b)) (q5 : nextL Ar k lab ∈ Se) (q6 : Fl.length ≤ Se.length + 1) (q7 : Fl.length + 2 * (16 - Se.length) < n0) (q8 : DFor Ar i Fin M Dn Fl Se k (lss.take j)), G9 { s with heap := h, toks := tk, drawn := dr }
variable {prog : Program} {w : World} {p : Program} {loose : List Str} {mean : ExcName -> Option Value} {mg mb : Str -> Option Value} {hz0 hq : Heap}
variable {s : Shared} {dp un : Nat} {fr : List Env} {gd : Option (List Code)} {R : Result -> Shared -> Prop}
variable {x dx t f : Addr} {i : Int} {Ar : Int -> Str -> Int -> Prop} {Fin : Int -> Prop} {t1 t2 t3 ti : Tok} {n : Nat}
theorem td_pre {α β : Type} {l : List α} {k : α} {s : List β} (h : (l ++ [k]).length ≤ s.length + 1) : l.length ≤ s.length + 1 := Nat.le_of_succ_le (by rw [List.length_append] at h; exact h)
theorem td_sz {a n s : Nat} (h : a = n) (h1 : n ≤ s + 1) (h2 : s ≤ 16) : a ≤ sizeLine := by rw [sizeLine_eq]; lia
theorem td_mu {f s n : Nat} (h : f + 2 * (16 - s) < n) (h1 : s + 1 ≤ 16) : f + 1 + 2 * (16 - (s + 1)) < n := by
 rw [sub_s h1, Nat.mul_add] at h
 exact Nat.lt_of_le_of_lt (by rw [Nat.add_assoc, Nat.add_comm 1]; exact Nat.add_le_add_left (Nat.add_le_add_left (by decide) _) _) h
theorem n_to_dfa (H : Base (hd.heap_1 w.params) p loose mean mg mb hz0) (hk : ∀ b o, hz0.get? b = some o -> s.heap.get? b = some o)
  (V : NfaAt prog w hz0 hq s.heap x i Ar Fin dx t f t1 t2 t3 ti n) (hU : Small (fun a => 0 ≤ a /\ a < 4) i Ar) (hlab : ∀ m : List Str, m.Nodup -> (∀ k ∈ m, ∃ a b, Ar a k b) -> m.length ≤ 7)
  (hd1 : dp + 39 < recursionLimit) (hu : un + 160 < cLine)
  (hR : ∀ (h' : Heap) (tk : Nat) (dr : Drawn) (xd : Addr) (Y : DLay (List Int)) (M : DMod (List Int)) (P : Addr -> Prop) (Dn : List Int -> Prop), (∀ b o, s.heap.get? b = some o -> h'.get? b = some o) -> (∀ b, P b ∨ b = xd ∨ b = Y.dx -> s.heap.get? b = none) -> DfaM (kkTup prog w dom4 hdom4) hz0 P h' xd Y M -> (∀ k, M.gk k ↔ dom4 k /\ k ≠ []) -> (∀ lab, M.gl lab ↔ ∃ a b, Ar a lab b) -> (∃ b, Y.v0 = .ref b) ->
   DGood Ar i Fin M -> (∀ a, Dn a -> DDone Ar Fin M a) -> Dn (startL Ar i) -> (∀ a lab, Dn a -> lab ≠ EPS -> HasL Ar a lab -> Dn (nextL Ar a lab)) -> R (.ok (.ret (.ref xd))) { s with heap := h', toks := tk, drawn := dr }) :
  codeAny (model prog w) (A0 dp un fr gd) (.call (.ref 226) ⟨[.ref x], []⟩) R s := by
 have hN := V.led
 k_dflt (apply enter; assumption; assumption; assumption; k_is; k_is; exact Nat.lt_of_le_of_lt (Nat.le_add_right _ _) (by assumption); exact BindsTo.of_eq rfl; exact locs rfl; exact rfl; exact rfl; exact rfl; decide; k_whole; intro _ _ _ _ _ _ _ _ _; (try dsimp only); (try k_fold))
 rename_i g hz1 Hg Hs Hk F N X T
 have tkg := tk_hide Hg (fun q hq => (hN q hq).1) V.ledT
 have subg := sub_hide Hg V.sub V.ledQ
 have sub0 := sub_hide Hg hk (fun q hq => (hN q hq).2)
 o_steps
 try dsimp only [List.append_nil]
 have V1 := V.now F N subg (by k_mem) (by k_mem)
 refine wpAny_call ?_
 refine n_start H ?_ V1 hU ?_ ?_ fun h2 tk2 dr2 r2 ns hk2 hr2 ht2 hpw hnd hm => ?_
 ·exact fun b o e => F.keep _ _ (sub0 b o e)
 ·exact (rmL hd1 rfl : dp + 10 < recursionLimit)
 ·exact (rmL hu rfl : un + 43 < cLine)
 refine x12 ht2.toO fun o2 ho2 TI2 => ?_
 have Fz2 := fr_stay F hk2
 have Nz2 := news_cons (news_stay N hk2) ho2 (fresh_off F hr2).1 (fresh_off F hr2).2
 clear F N V1
 try dsimp only
 o_steps
 have ens : ns = startL Ar i := canon_eq (fun b h => clos_U (l := [i]) (fun a ha => by simp at ha; subst ha; exact hU.init) hU.arc h) hpw hnd hm
 subst ens
 refine mk_dfa (kk := kkTup prog w dom4 hdom4) (k0 := startL Ar i) (gk := fun k => dom4 k /\ k ≠ []) (gl := fun lab => ∃ a b, Ar a lab b) H ?_ ?_ ?_ ?_ ?_ fun h3 tk3 xd Y0 P0 hk3 hP0 hv0 VD => ?_
 ·exact fun b o e => Fz2.keep _ _ (sub0 b o e)
 ·exact .inl ⟨r2, rfl⟩
 ·exact ⟨r2, rfl, TI2.at (Nz2.get (by k_mem))⟩
 ·exact (rmL hd1 rfl : dp + 20 < recursionLimit)
 ·exact (rmL hu rfl : un + 83 < cLine)
 have Lex : ∃ o, h2.get? s.heap.objs.size = some o := x32 (Fz2.ns) fun oL _ _ e _ => ⟨oL, e⟩
 have Fz3 := fr_stay Fz2 hk3
 have nt3 : ∀ b o, h3.get? b = some o -> TupO o -> b ≠ s.heap.objs.size := fun b o e c q => L_not_tup Fz3 (q ▸ e) c
 have Nz3 := news_all (news_stay (news_tail Nz2) hk3)
 have kp3 := fun {h' : Heap} {m' : Str -> Option Value} => tail_keep Fz3 (news_stay (news_tail Nz2) hk3) (h' := h') (m' := m')
 dsimp only [List.cons_append, List.nil_append, List.map_cons, List.map_nil] at Nz3 kp3
 clear Fz2 Nz2
 o_steps
 (rename Fr _ _ _ _ => F4; rename News _ _ _ _ => N4; try rename Heap => hz4)
 have Vz4 := V.now F4 N4 subg (by k_mem) (by k_mem)
 try dsimp only [List.append_nil]
 refine wpAny_call ?_
 refine n_start H ?_ Vz4 hU ?_ ?_ fun h5 tk5 dr5 r5 ns5 hk5 hr5 ht5 hpw5 hnd5 hm5 => ?_
 ·exact fun b o e => F4.keep _ _ (sub0 b o e)
 ·exact (rmL hd1 rfl : dp + 10 < recursionLimit)
 ·exact (rmL hu rfl : un + 43 < cLine)
 have ens : ns5 = startL Ar i := canon_eq (fun b h => clos_U (l := [i]) (fun a ha => by simp at ha; subst ha; exact hU.init) hU.arc h) hpw5 hnd5 hm5
 subst ens
 have k34 := kp3 F4 N4
 have F5 := fr_stay F4 hk5
 have nt5 : ∀ b o, h5.get? b = some o -> TupO o -> b ≠ s.heap.objs.size := fun b o e c q => L_not_tup F5 (q ▸ e) c
 have Nf5 := news_front (front := [(x, instObj 229 dx), (dx, nfaD w t f (.int i ti) t1 t2 t3 n)]) (news_stay N4 hk5)
 have N5 := news_all Nf5
 have kp5 := fun {h' : Heap} {m' : Str -> Option Value} => tail_keep F5 Nf5 (h' := h') (m' := m')
 dsimp only [List.cons_append, List.nil_append, List.map_cons, List.map_nil] at N5 kp5
 clear F4 N4 Vz4
 try dsimp only
 o_steps
 rename_i l1 hL1 lt1 hL2 FX NX
 (rename Fr _ _ _ _ => F6; rename News _ _ _ _ => N6; try rename Heap => hz6)
 have k56 := kp5 F6 (news_tail N6)
 refine call_set0 (sk := skTup prog w dom4 hdom4) (lim := 18) (by decide) fun h7 sd hk7 hr7 S7 => ?_
 have sd1 := fresh_off F6 hr7
 have sd2 : sd ≠ l1 := ne_get (N6.get (by k_mem)) hr7
 have sd3 : sd ≠ x := ne_get (N6.get (by k_mem)) hr7
 have sd4 : sd ≠ dx := ne_get (N6.get (by k_mem)) hr7
 have F7 := fr_stay F6 hk7
 have nt7 : ∀ b o, h7.get? b = some o -> TupO o -> b ≠ s.heap.objs.size := fun b o e c q => L_not_tup F7 (q ▸ e) c
 have Nf7 := news_front (front := [(l1, W.listOf #[.ref r5] 0), (x, instObj 229 dx), (dx, nfaD w t f (.int i ti) t1 t2 t3 n)]) (news_stay N6 hk7)
 have N7 := news_all Nf7
 have kp7 := fun {h' : Heap} {m' : Str -> Option Value} => tail_keep F7 Nf7 (h' := h') (m' := m')
 dsimp only [List.cons_append, List.nil_append, List.map_cons, List.map_nil] at N7 kp7
 clear F6 N6
 o_steps
 (rename Fr _ _ _ _ => F8; rename News _ _ _ _ => N8; try rename Heap => hz8)
 have k78 := kp7 F8 N8
 have k38 : ∀ b o, b ≠ s.heap.objs.size -> h3.get? b = some o -> hz8.get? b = some o := fun b o n e => k78 _ _ n (hk7 _ _ (k56 _ _ n (hk5 _ _ (k34 _ _ n e))))
 have shg : ∀ b o, s.heap.get? b = some o -> b ≠ x -> b ≠ dx -> g.get? b = some o := fun b o e n1 n2 => Hg _ _ e (by simp [n1, n2])
 have sh8 : ∀ b o, s.heap.get? b = some o -> h2.get? b = some o := fun b o e => hk2 _ _ (Hk _ _ e)
 have hPn : ∀ b, P0 b ∨ b = xd ∨ b = Y0.dx -> s.heap.get? b = none /\ b ≠ s.heap.objs.size /\ b ≠ x /\ b ≠ dx /\ b ≠ l1 /\ b ≠ sd := fun b hb => by
  have e0 := hP0 b hb
  have e1 : s.heap.get? b = none := none_sub sh8 e0
  have ex : ∃ o, h3.get? b = some o := by
   rcases hb with q | rfl | rfl
   ·exact VD.pa b q
   ·exact ⟨_, VD.ox⟩
   ·exact ⟨_, VD.od⟩
  refine x11 ex fun o3 e3 => ?_
  have nL : b ≠ s.heap.objs.size := by
   rintro rfl
   refine x11 Lex fun oL eL => ?_
   rw [eL] at e0; cases e0
  have nx : b ≠ x := by rintro rfl; rw [V.ox] at e1; cases e1
  have nd : b ≠ dx := by rintro rfl; rw [V.od] at e1; cases e1
  have e5 := hk5 _ _ (k34 _ _ nL e3)
  have e6 := k56 _ _ nL e5
  refine ⟨e1, nL, nx, nd, ?_, fun q => by rw [q] at e6; rw [e6] at hr7; cases hr7⟩
  have gb : g.get? b = none := none_sub Hs e1
  have := ktn_ltOf lt1.2.2 (b, o3) (mem_allOf.mpr ⟨e5, gb, nL, by simp [nx, nd]⟩)
  exact Nat.ne_of_lt this
 have shl : ∀ {fr : List (Addr × Obj)} {h : Heap} {m : Str -> Option Value}, Led g s.heap.objs.size fr h m -> (x, instObj 229 dx) ∈ fr -> (dx, nfaD w t f (.int i ti) t1 t2 t3 n) ∈ fr -> ∀ b o, s.heap.get? b = some o -> h.get? b = some o := fun S h1 h2 b o e => by
  by_cases q1 : b = x
  ·subst q1; rw [V.ox] at e; cases e; exact (S.N _ h1).1
  ·by_cases q2 : b = dx
   ·subst q2; rw [V.od] at e; cases e; exact (S.N _ h2).1
   ·exact S.F.keep _ _ (shg _ _ e q1 q2)
 have hg0 : ∀ b, s.heap.get? b = none -> g.get? b = none := fun b e => none_sub Hs e
 have lx : l1 ≠ x := Ne.symm (Nat.ne_of_lt lt1.1)
 have ld : l1 ≠ dx := Ne.symm (Nat.ne_of_lt lt1.2.1)
 refine x11 (⟨_, F8⟩ : ∃ m8, Fr g s.heap.objs.size hz8 m8) fun m8 F8' => ?_
 have Sz8 : TdSt prog w Ar hz0 g s.heap s.heap.objs.size sd xd [(l1, listO [Value.ref r5].toArray 0), (x, instObj 229 dx), (dx, nfaD w t f (.int i ti) t1 t2 t3 n)] [.ref r5] [startL Ar i] [] Y0 (M0 Ar i) P0 hz8 m8 := by
  refine ⟨⟨F8', fun q hq => N8 q ?_, ?_⟩, .cons ?_ .nil, ?_, VD.move (fun b o hb e => k38 _ _ (hPn b hb).2.1 e) ?_, ?_, ?_, fun k => Iff.rfl, fun lab => Iff.rfl⟩
  ·simp only [List.mem_cons, List.not_mem_nil, or_false] at hq
   rcases hq with rfl | rfl | rfl
   ·exact .head _
   ·exact .tail _ (.head _)
   ·exact .tail _ (.tail _ (.head _))
  ·intro q hq
   simp only [List.mem_cons, List.not_mem_nil, or_false] at hq
   rcases hq with rfl | rfl | rfl
   ·exact nt_cls (by show (Value.type "list") ≠ _; decide)
   ·exact nt_cls (by show (Value.ref 229) ≠ _; decide)
   ·exact nt_cls (by show (Value.type "dict") ≠ _; decide)
  ·exact ht5.tk fun b o e c => k78 _ _ (nt5 b o e c) (hk7 _ _ (k56 _ _ (nt5 b o e c) e))
  ·exact S7.keep (fun o e => k78 _ o sd1.1 e) fun b o e c => k78 _ _ (nt7 b o e c) e
  ·exact fun b o e c => k38 _ _ (nt3 b o e c) e
  ·exact ⟨sd1.1, by simp [sd2, sd3, sd4]⟩
  ·exact fun b hb => let ⟨a1, a2, a3, a4, a5, a6⟩ := hPn b hb; ⟨a6, ⟨a2, by simp [a3, a4, a5]⟩, a1⟩
 refine While_my (nz0 := 1 + 2 * 16) (fun k9 m news _ => Chu (TdA prog w hz0 g s x dx t f t1 t2 t3 ti i n Ar Fin xd l1 sd k9 m) news) F8 Sz8.all ?_ ?_
 ·exact (fun _ k9 => k9 hz8 m8 ([.ref r5]) 0 ([startL Ar i]) ([]) (fun _ => False) Y0 (M0 Ar i) P0 rfl (by simp) rfl rfl rfl rfl Sz8 (⟨r2, hv0⟩) (DWh.first hU))
 rintro nz1 mz1 news1 hz9 tkz1 dr1 Fz9 Nz9 hJ9
 revert Fz9 Nz9
 refine Chu.out hJ9 ?_
 clear hJ9
 rintro hX mX arr c Fl Se Dn Y M P rfl hFS m1 m2 m3 m4 SX hv0' hI Fz9 Nz9
 refine whileMy_hide fun GW hGW => ?_
 have Fz9 := fr_put (Str.ofString "self") (fr_put (Str.ofString "dfa") (fr_put (Str.ofString "frontier") (fr_put (Str.ofString "seen") Fz9 m4) (by exact m3)) (by exact m2)) (by exact m1)
 have Sz9 := SX.same Fz9 Nz9 (by w_tidy)
 clear SX Nz9 Fz9 F8 N8 Sz8 F8'
 have Fz9 := Sz9.F
 have Nz9 := Sz9.all
 dsimp only [List.cons_append, List.nil_append, List.map_cons, List.map_nil] at Nz9
 o_steps
 have hSn : Se.Nodup := by
  obtain ⟨_, _, _, _, _, _, hn, _⟩ := Sz9.se
  exact hn
 have hS16 := dom4_le hSn fun k hk => (hI.okS k hk).1
 have hlenA := Sz9.ta.len
 refine truthy_listO (arr := arr.toArray) (c := c) ?_ ?_ fun tk2 => ?_
 ·exact Nz9.get (by k_mem)
 ·exact td_sz (by rw [List.size_toArray]; exact hlenA) hFS hS16
 rcases snoc_cases arr with rfl | ⟨pre, v, rfl⟩
 ·obtain rfl := Sz9.ta.nil_inv
  refine x04 hI.end fun G1 G2 G3 G4 => ?_
  rw [if_neg (by omega_side)]
  try dsimp only
  o_steps
  exact hR _ _ _ xd Y M P Dn (shl Sz9.toLed (by omega_side) (by omega_side)) (fun b hb => (Sz9.hP b hb).2.2) Sz9.d Sz9.gk Sz9.gl hv0' G1 G2 G3 G4
 refine x34 (TupsAre.concat _ _ Sz9.ta) fun Fl' k b q91 q92 hkb hta => ?_; subst q91; subst q92
 rw [if_pos (by omega_side)]
 o_steps
 have hlp := hta.len
 refine pop_listO (l := pre) (v := .ref b) (c := c) ?_ ?_ fun h' c' hs ho' => ?_
 ·exact Nz9.get (by k_mem)
 ·exact td_sz (n := (Fl' ++ [k]).length) (by rw [List.length_append, hlp]; rfl) hFS hS16
 have S10 := Sz9.list hs ho' hta (by simp [lx, ld])
 have kb := hkb.tk (TupKeep.of_same hs (Sz9.N (l1, listO (pre ++ [Value.ref b]).toArray c) (by omega_side)).1 (by show (Value.type "list") ≠ _; decide))
 clear Fz9 Nz9 Sz9
 have F10 := S10.F
 have N10 := S10.all
 dsimp only [List.cons_append, List.nil_append, List.map_cons, List.map_nil] at N10
 ((try dsimp only); repeat' ((fail_if_success with_reducible refine' gIf _); kl_some))
 (rename Fr _ _ _ _ => F11; rename News _ _ _ _ => N11; try rename Heap => hz11)
 have S11 := S10.same F11 N11 (by w_tidy)
 have kb11 := kb.tk (S10.tk (S10.kp F11 N11 (by w_tidy)))
 refine x11 (⟨_, rfl⟩ : ∃ m, m = (fun y => if y = Str.ofString "current" then some (Value.ref b) else if y = Str.ofString "self" then some (.ref x) else if y = Str.ofString "dfa" then some (.ref xd) else if y = Str.ofString "frontier" then some (.ref l1) else if y = Str.ofString "seen" then some (.ref sd) else mz1 y)) fun m11 hm11 => ?_
 have okk : dom4 k /\ k ≠ [] := hI.okF k (by omega_side)
 rw [← hm11] at S11
 clear S10 kb
 refine seq_join (fun s' => Chu (TdB prog w hz0 g s x dx t f t1 t2 t3 ti i n Ar Fin xd l1 sd c' pre Fl' Se Dn k b m11) s') ?_ ?_
 ·o_steps
  have V11 := V.now F11 N11 subg (by k_mem) (by k_mem)
  refine wpAny_call ?_
  refine n_is_final (ns := k) H ?_ V11 kb11 ?_ ?_ fun h12 tk12 dr12 bf hk12 hbf => ?_
  ·exact fun b o e => F11.keep _ _ (sub0 b o e)
  ·exact (rmL hd1 rfl : dp + 6 < recursionLimit)
  ·exact (rmL hu rfl : un + 23 < cLine)
  have S12 := S11.stay' hk12
  have kb12 := kb11.keep (fun o e => hk12 _ _ e)
  clear S11 F11 N11 V11 kb11
  try dsimp only
  have F12 := S12.F
  have N12 := S12.all
  simp only [List.cons_append, List.nil_append, List.map_cons, List.map_nil, hm11] at F12 N12
  cases bf with
  | false =>
   o_steps
   exact .mk fun _ k9 => k9 h12 _ _ Y M P S12 kb12 hv0' (hI.popNo fun h => by simpa using hbf.mpr h)
  | true =>
   have hfk : ∃ a ∈ k, Fin a := hbf.mp rfl
   have N12 := S12.allD hg0
   dsimp only [List.cons_append, List.nil_append, List.map_cons, List.map_nil] at N12
   o_steps
   (rename Fr _ _ _ _ => F13; rename News _ _ _ _ => N13; try rename Heap => hz13)
   have S13 := S12.same (hm11 ▸ F13) N13 (by w_tidy)
   refine wpAny_call ?_
   refine d_add_final (k := k) H ?_ S13.d ⟨b, rfl, kb12⟩ okk.1 ?_ ?_ ?_ fun h14 tk14 hoff tkk d14 => ?_
   ·exact fun b o e => F13.keep _ _ (sub0 b o e)
   ·exact fun m hm hmm => Nat.le_trans (dom4_le hm fun a ha => (hmm a ha).elim (fun e => e ▸ okk.1) S13.fin_dom) (by decide)
   ·exact (rmL hd1 rfl : dp + 6 < recursionLimit)
   ·exact (rmL hu rfl : un + 23 < cLine)
   have S14 := S13.dfa (fun b o nb e => hoff b o (by simp; rintro rfl; exact nb S13.d.pf) e) tkk (fun b q => .inl q) d14 (fun b pb => hg0 b (S13.hP b (.inl pb)).2.2) (shl S13.toLed (by omega_side) (by omega_side)) rfl rfl
   try dsimp only
   o_steps
   exact .mk fun _ k9 => k9 h14 _ _ Y _ P S14 (kb12.tk tkk) hv0' (hI.popFin hfk)
 rintro s' q80; refine Chu.out q80 ?_; rintro hz15 tk15 dr15 Y1 M1 P1 S15 kb15 hv1 hJ
 clear F11 N11 S11 kb11
 have F15 := S15.F
 have N15 := S15.all
 simp only [List.cons_append, List.nil_append, List.map_cons, List.map_nil, hm11] at F15 N15
 o_steps
 have V15 := V.now F15 N15 subg (by k_mem) (by k_mem)
 refine wpAny_call ?_
 refine n_labels (ns := k) H ?_ V15 kb15 hlab ?_ ?_ fun h16 tk16 dr16 rl ol ls hk16 hrl hol SL hls => ?_
 ·exact fun b o e => F15.keep _ _ (sub0 b o e)
 ·exact (rmL hd1 rfl : dp + 10 < recursionLimit)
 ·exact (rmL hu rfl : un + 43 < cLine)
 have frl := S15.toLed.fresh_aside hrl
 have grl := (fresh_off F15 hrl).2
 have S16 := S15.stay' hk16
 have kb16 := kb15.keep (fun o e => hk16 _ _ e)
 clear S15 F15 N15 V15 kb15
 have F16 := S16.F
 have N16 := news_cons S16.all hol frl.1 grl
 simp only [List.cons_append, List.nil_append, List.map_cons, List.map_nil, hm11] at F16 N16
 try dsimp only
 o_steps
 (rename Fr _ _ _ _ => F17; rename News _ _ _ _ => N17; try rename Heap => hz17)
 have S17 := S16.same F17 N17 (by w_tidy)
 have kb17 := kb16.tk (S16.tk (S16.kp F17 N17 (by w_tidy)))
 clear S16 kb16
 refine For_g (hs := fun _ => rfl) g ?_
 o_steps
 refine sorted_strs_at (l := ls) (lim := 7) ?_ ?_ fun h18 tk18 dr18 rs out cs lss hst hperm hk18 hrs hos => ?_
 ·rfl
 ·exact SL.at (N17.get (by k_mem))
 have rsA := S17.toLed.fresh_aside hrs
 have grs := (fresh_off F17 hrs).2
 have F18 := fr_stay F17 hk18
 have Nz18 := news_stay S17.all hk18
 o_steps
 have kb18 := kb17.keep (fun o e => hk18 _ _ e)
 have rs3 : rs ≠ l1 /\ rs ≠ x /\ rs ≠ dx := by simpa using rsA.2
 have hlss : ∀ lab, lab ∈ lss ↔ HasL Ar k lab := fun lab => by rw [hperm.mem_iff, hls]; rfl
 have hμ : Fl'.length + 2 * (16 - Se.length) < (Fl' ++ [k]).length + 2 * (16 - Se.length) := by rw [List.length_append]; exact Nat.add_lt_add_right (Nat.lt_succ_self _) _
 have hFS' : Fl'.length ≤ Se.length + 1 := td_pre hFS
 generalize (Fl' ++ [k]).length + 2 * (16 - Se.length) = n0 at hμ hGW ⊢
 have S18 := S17.step (fr' := [(l1, listO pre.toArray c'), (x, instObj 229 dx), (dx, nfaD w t f (.int i ti) t1 t2 t3 n)] ++ [(rs, listO out cs)]) F18 (news_cons Nz18 hos rsA.1 grs)
  (fun q hq => .tail _ (List.mem_append_right _ hq)) (fun q hq => (List.mem_append.mp hq).elim (fun hq => .tail _ (List.mem_append_left _ hq)) fun hq => by simp only [List.mem_singleton] at hq; subst hq; exact .head _)
  (fun q hq => (List.mem_append.mp hq).elim (S17.nt q) fun hq => by simp only [List.mem_singleton] at hq; subst hq; exact nt_cls (by show (Value.type "list") ≠ _; decide)) (fun q hq => (List.mem_append.mp hq).elim (fun hq => .inl (List.mem_map_of_mem hq)) fun hq => by simp only [List.mem_singleton] at hq; subst hq; exact .inr hrs)
 have N18 : News g s.heap.objs.size h18 ([(l1, listO pre.toArray c'), (x, instObj 229 dx), (dx, nfaD w t f (.int i ti) t1 t2 t3 n)] ++ allOf g s.heap.objs.size (([(l1, listO pre.toArray c'), (x, instObj 229 dx), (dx, nfaD w t f (.int i ti) t1 t2 t3 n)] ++ [(rs, listO out cs)]).map (·.1)) h18) :=
  fun p hp => S18.all p ((List.mem_append.mp hp).elim (fun h => List.mem_append_left _ (List.mem_append_left _ h)) (List.mem_append_right _))
 refine iter_listG (ht := fun _ _ => rfl) (fun j m news => Chu (TdC prog w hz0 g s x dx t f t1 t2 t3 ti i n Ar Fin xd l1 sd Dn k b h18 rs n0 lss j m) news) hos (Ne.symm rsA.1) ?_ rfl F18 N18 ?_ ?_ ?_ grs
 ·intro p hp
  rcases List.mem_append.mp hp with hp | hp
  ·simp only [List.mem_cons, List.not_mem_nil, or_false] at hp
   rcases hp with rfl | rfl | rfl
   ·exact Ne.symm rs3.1
   ·exact Ne.symm rs3.2.1
   ·exact Ne.symm rs3.2.2
  ·exact fun q => (mem_allOf.mp hp).2.2.2 (by simp [q])
 ·rintro h' hk' - F' N'
  exact (fun _ k9 => k9 h18 _ ([(rs, listO out cs)]) pre c' Fl' Se Y1 M1 P1 rfl rfl rfl rfl rfl S18 kb18 hv1 (by simp [fresh_size]) hFS' hμ (by simpa using hJ))
 ·rintro j v mz2 news2 hz19 tkz2 drz2 own hv hJ9
  refine Chu.out hJ9 ?_
  clear hJ9
  rintro hX mX own' arr c Fl Se Y M P m1 m2 m3 m4 m5 SX kbX hv2 hown' hFS2 hμ2 hI2 hav hown hIo hro F19 N19
  refine stepG_hideC fun G hG hGc => ?_
  refine x22 (strs_get hst j v hv) fun lab tl hlab' q93 => ?_; subst q93
  have hkS := SX.kp F19 N19 (fun q hq => List.mem_append_left _ (List.mem_append_right _ hq))
  have S19 := SX.step (fr' := [(l1, listO arr.toArray c), (x, instObj 229 dx), (dx, nfaD w t f (.int i ti) t1 t2 t3 n)] ++ own) F19 N19 (fun q hq => List.mem_append_left _ (List.mem_append_right _ hq)) (fun q hq => (List.mem_append.mp hq).elim (fun hq => List.mem_append_left _ (List.mem_append_left _ hq)) (List.mem_append_right _))
   (fun q hq => (List.mem_append.mp hq).elim (fun hq => SX.nt q (List.mem_append_left _ hq)) fun hq => nt_cls (hown q hq).2) (fun q hq => (List.mem_append.mp hq).elim (fun hq => .inl (List.mem_map_of_mem (List.mem_append_left _ hq))) fun hq => (hown' _ (hown q hq).1).elim (fun h => .inl (by rw [List.map_append]; exact List.mem_append_right _ h)) .inr)
  have kb19 := kbX.tk (SX.tk hkS)
  clear SX kbX hown' hkS
  have F19 := fr_put (Str.ofString "self") (fr_put (Str.ofString "dfa") (fr_put (Str.ofString "frontier") (fr_put (Str.ofString "seen") (fr_put (Str.ofString "current") S19.F m5) (by exact m4)) (by exact m3)) (by exact m2)) (by exact m1)
  have N19 := S19.all
  dsimp only [List.cons_append, List.nil_append] at N19
  refine wpAny_assign_Name ?_
  ((try dsimp only); repeat' ((fail_if_success with_reducible refine' gIf _); kl_some))
  refine wpAny_execs_cons ?_
  have hownI : ∀ a ∈ [h18.objs.size, rs], a ∈ own.map (·.1) := by
   intro a ha
   simp only [List.mem_cons, List.not_mem_nil, or_false] at ha
   rcases ha with rfl | rfl
   ·refine x11 hIo fun o ho => ?_; exact List.mem_map.mpr ⟨_, ho, rfl⟩
   ·refine x11 hro fun o ho => ?_; exact List.mem_map.mpr ⟨_, ho, rfl⟩
  have hf3 : ∀ {o : Obj}, ∀ q ∈ [(l1, o), (x, instObj 229 dx), (dx, nfaD w t f (.int i ti) t1 t2 t3 n)], q.1 ∉ [h18.objs.size, rs] := by
   intro o
   refine all3 ?_ ?_ ?_
   ·exact hav (l1, listO arr.toArray c) (by omega_side)
   ·exact hav (x, instObj 229 dx) (by omega_side)
   ·exact hav (dx, nfaD w t f (.int i ti) t1 t2 t3 n) (by omega_side)
  have htake : lss.take (j + 1) = lss.take j ++ [lab] := by rw [List.take_add_one, hlab']; rfl
  have hHas : HasL Ar k lab := (hlss lab).mp (List.mem_of_getElem? hlab')
  o_steps
  ·rename_i hE
   obtain rfl : lab = EPS := by simpa using hE
   (rename Fr _ _ _ _ => F20; rename News _ _ _ _ => N20; try rename Heap => h20)
   have S20 := S19.same F20 N20 (by w_tidy)
   have kb20 := kb19.tk (S19.tk (S19.kp F20 N20 (by w_tidy)))
   try dsimp only
   exact hGc h20 _ _ _ _ F20 S20.endN (Led.endA hownI hf3) (fun _ k9 => k9 h20 _ own arr c Fl Se Y M P rfl rfl rfl rfl rfl S20 kb20 hv2 (fun a ha => .inl (hownI a ha)) hFS2 hμ2 (htake ▸ hI2.eps))
  rename_i hE
  have hE : lab ≠ EPS := by simpa using hE
  (rename Fr _ _ _ _ => F20; rename News _ _ _ _ => N20; try rename Heap => h20)
  have S20 := S19.same F20 N20 (by w_tidy)
  have kb20 := kb19.tk (S19.tk (S19.kp F20 N20 (by w_tidy)))
  have V20 := V.now F20 N20 subg (by k_mem) (by k_mem)
  clear S19 kb19
  refine wpAny_call ?_
  refine n_next (ns := k) (U := fun a => 0 ≤ a /\ a < 4) H ?_ V20 hU kb20 ?_ ?_ fun h21 tk21 dr21 b2 ms hk21 hb21 hms hpw2 hnd2 hmm => ?_
  ·exact fun b o e => F20.keep _ _ (sub0 b o e)
  ·exact (rmL hd1 rfl : dp + 10 < recursionLimit)
  ·exact (rmL hu rfl : un + 43 < cLine)
  obtain rfl : ms = nextL Ar k lab := canon_eq (fun b q89 => x12 q89 fun _ hc r => star_U hU (move_U hU hc) r) hpw2 hnd2 hmm
  have S21 := S20.stay' hk21
  have kb21 := kb20.keep (fun o e => hk21 _ _ e)
  clear S20 kb20 F20 N20 V20
  have F21 := S21.F
  have N21 := S21.all
  dsimp only [List.cons_append, List.nil_append] at N21
  try dsimp only
  ((try dsimp only); repeat' ((fail_if_success with_reducible refine' gIf _); kl_some))
  (rename Fr _ _ _ _ => F22; rename News _ _ _ _ => N22; try rename Heap => h22)
  have S22 := S21.same F22 N22 (by w_tidy)
  have tk22 := S21.tk (S21.kp F22 N22 (by w_tidy))
  have kb22 := kb21.tk tk22
  have nb22 := hms.tk tk22
  clear S21 kb21 hms
  refine x11 (name_map F22) fun m22 hm22 => ?_
  rw [← hm22] at S22
  refine seq_join (fun s' => Chu (TdD prog w hz0 g s x dx t f t1 t2 t3 ti i n Ar Fin xd l1 sd Dn k b n0 lss own lab b2 m22 j) s') ?_ ?_
  ·o_steps
   have okn : dom4 (nextL Ar k lab) /\ nextL Ar k lab ≠ [] := ⟨nextL_dom hU _ _, nextL_ne hU hHas⟩
   have hSn2 : Se.Nodup := by
    obtain ⟨_, _, _, _, _, _, hn, _⟩ := S22.se
    exact hn
   have hS162 := dom4_le hSn2 fun k hk => (hI2.okS k hk).1
   by_cases hin : nextL Ar k lab ∈ Se
   ·refine notIn_no (sk := skTup prog w dom4 hdom4) (lim := 18) (l := Se) (k := nextL Ar k lab) S22.se ?_ okn.1 ⟨b2, rfl, nb22⟩ hin fun tk3 => ?_
    ·o_norm
    o_steps
    exact .mk fun _ k9 => k9 h22 _ _ arr c Fl Se Y M P S22 kb22 nb22 hv2 hin hFS2 hμ2 hI2
   refine notIn_yes (sk := skTup prog w dom4 hdom4) (lim := 18) (l := Se) (k := nextL Ar k lab) S22.se ?_ okn.1 ⟨b2, rfl, nb22⟩ hin fun tk3 => ?_
   ·o_norm
   o_steps
   have hlA := S22.ta.len
   refine append_listO (l := arr) (v := .ref b2) (c := c) ?_ ?_ fun h' c' hs ho' => ?_
   ·exact N22.get (by k_mem)
   ·exact td_sz hlA hFS2 hS162
   have hl1 : l1 ∉ ([(x, instObj 229 dx), (dx, nfaD w t f (.int i ti) t1 t2 t3 n)] ++ own).map (·.1) := by
    rw [List.map_append, List.mem_append]
    rintro (q | q)
    ·simp [lx, ld] at q
    ·refine x12 (List.mem_map.mp q) fun p hp e => ?_
     exact hf3 (o := instObj 229 dx) (l1, instObj 229 dx) (by omega_side) (e ▸ (hown p hp).1)
   have kl : TupKeep h22 h' := TupKeep.of_same hs (S22.N (l1, listO arr.toArray c) (by omega_side)).1 (by show (Value.type "list") ≠ _; decide)
   have S23 : TdSt prog w Ar hz0 g s.heap s.heap.objs.size sd xd ([(l1, listO (arr ++ [Value.ref b2]).toArray c'), (x, instObj 229 dx), (dx, nfaD w t f (.int i ti) t1 t2 t3 n)] ++ own) (arr ++ [.ref b2]) (Fl ++ [nextL Ar k lab]) Se Y M P h' m22 :=
    TdSt.list (tl := [(x, instObj 229 dx), (dx, nfaD w t f (.int i ti) t1 t2 t3 n)] ++ own) S22 hs ho' (S22.ta.append (.cons nb22 .nil)) hl1
   have kb23 := kb22.tk kl
   have nb23 := nb22.tk kl
   clear S22 F22 N22 kb22 nb22
   have F23 := S23.F
   have N23 := S23.all
   simp only [List.cons_append, List.nil_append, hm22] at F23 N23
   o_steps
   (rename Fr _ _ _ _ => F24; rename News _ _ _ _ => N24; try rename Heap => h24)
   have S24 := S23.same (hm22 ▸ F24) N24 (by w_tidy)
   have tk24 := S23.tk (S23.kp F24 N24 (by w_tidy))
   have kb24 := kb23.tk tk24
   have nb24 := nb23.tk tk24
   clear S23 kb23 nb23
   refine meth_set S24.se PySem.F.slot_set_add PySem.F.type_set_add ?_
   o_steps
   refine call_add (sk := skTup prog w dom4 hdom4) (lim := 18) (l := Se) (k := nextL Ar k lab) S24.se ?_ okn.1 ⟨b2, rfl, nb24⟩ (fun _ => Nat.le_trans (Nat.succ_le_succ hS162) (by decide)) fun h25 tk25 Se' hs25 hSe' S25 => ?_
   ·o_norm
   rw [if_neg hin] at hSe'
   have tkz25 : TupKeep h24 h25 := x13 (S24.se.cls) fun os hos cs _ => TupKeep.of_same hs25 hos (by rw [cs]; decide)
   have Sz25 := S24.seen hs25 S25 sd1.2
   have kb25 := kb24.tk tkz25
   have nb25 := nb24.tk tkz25
   have hI3 := hI2.new (Se' := Se') (v := nextL Ar k lab) (fun a => by rw [hSe'.mem_iff, List.mem_cons]) okn
   have hlen' : Se'.length = Se.length + 1 := by rw [hSe'.length_eq, List.length_cons]
   have hin' : nextL Ar k lab ∈ Se' := hSe'.mem_iff.mpr (by omega_side)
   have hFS3 : (Fl ++ [nextL Ar k lab]).length ≤ Se'.length + 1 := by rw [List.length_append, hlen']; exact Nat.succ_le_succ hFS2
   have hSn3 : Se'.Nodup := hSe'.nodup_iff.mpr (List.nodup_cons.mpr ⟨hin, hSn2⟩)
   have hS163 := dom4_le hSn3 fun k hk => (hI3.okS k hk).1
   have hμ3 : (Fl ++ [nextL Ar k lab]).length + 2 * (16 - Se'.length) < n0 := by rw [List.length_append, hlen']; exact td_mu hμ2 (hlen' ▸ hS163)
   clear S24 F24 N24 kb24 nb24
   have F25 := Sz25.F
   have N25 := Sz25.all
   simp only [List.cons_append, List.nil_append, hm22] at F25 N25
   o_steps
   (rename Fr _ _ _ _ => F26; rename News _ _ _ _ => N26; try rename Heap => h26)
   have S26 := Sz25.same (hm22 ▸ F26) N26 (by w_tidy)
   have tk26 := Sz25.tk (Sz25.kp F26 N26 (by w_tidy))
   have kb26 := kb25.tk tk26
   have nb26 := nb25.tk tk26
   clear Sz25 kb25 nb25
   have V26 := V.now F26 N26 subg (by k_mem) (by k_mem)
   refine wpAny_call ?_
   refine n_is_final (ns := nextL Ar k lab) H ?_ V26 nb26 ?_ ?_ fun h27 tk27 dr27 bf hk27 hbf => ?_
   ·exact fun b o e => F26.keep _ _ (sub0 b o e)
   ·exact (rmL hd1 rfl : dp + 6 < recursionLimit)
   ·exact (rmL hu rfl : un + 23 < cLine)
   have S27 := S26.stay' hk27
   have kb27 := kb26.keep (fun o e => hk27 _ _ e)
   have nb27 := nb26.keep (fun o e => hk27 _ _ e)
   clear S26 F26 N26 V26 kb26 nb26
   try dsimp only
   have F27 := S27.F
   have N27 := S27.all
   simp only [List.cons_append, List.nil_append, hm22] at F27 N27
   cases bf with
   | false =>
    o_steps
    exact .mk fun _ k9 => k9 h27 _ _ _ c' _ Se' Y M P S27 kb27 nb27 hv2 hin' hFS3 hμ3 hI3
   | true =>
    have hfk : ∃ a ∈ nextL Ar k lab, Fin a := hbf.mp rfl
    have N27 := S27.allD hg0
    dsimp only [List.cons_append, List.nil_append] at N27
    o_steps
    (rename Fr _ _ _ _ => F28; rename News _ _ _ _ => N28; try rename Heap => hz28)
    have S28 := S27.same (hm22 ▸ F28) N28 (by w_tidy)
    have tk28 := S27.tk (S27.kp F28 N28 (by w_tidy))
    have kb28 := kb27.tk tk28
    have nb28 := nb27.tk tk28
    clear S27 kb27 nb27
    refine wpAny_call ?_
    refine d_add_final (k := nextL Ar k lab) H ?_ S28.d ⟨b2, rfl, nb28⟩ okn.1 ?_ ?_ ?_ fun h29 tk29 hoff tkk d29 => ?_
    ·exact fun b o e => F28.keep _ _ (sub0 b o e)
    ·exact fun m hm hmm => Nat.le_trans (dom4_le hm fun a ha => (hmm a ha).elim (fun e => e ▸ okn.1) S28.fin_dom) (by decide)
    ·exact (rmL hd1 rfl : dp + 6 < recursionLimit)
    ·exact (rmL hu rfl : un + 23 < cLine)
    have S29 := S28.dfa (fun b o nb e => hoff b o (by simp; rintro rfl; exact nb S28.d.pf) e) tkk (fun b q => .inl q) d29 (fun b pb => hg0 b (S28.hP b (.inl pb)).2.2) (shl S28.toLed (by omega_side) (by omega_side)) rfl rfl
    try dsimp only
    o_steps
    exact .mk fun _ k9 => k9 h29 _ _ _ c' _ Se' Y _ P S29 (kb28.tk tkk) (nb28.tk tkk) hv2 hin' hFS3 hμ3 (hI3.fin hfk)
  rintro s' q80; refine Chu.out q80 ?_; rintro h30 tk30 dr30 arr c Fl Se Y M P S30 kb30 nb30 hv3 hin hFS3 hμ3 hI3
  clear F22 N22 S22 kb22 nb22
  have F30 := S30.F
  have N30 := S30.allD hg0
  simp only [List.cons_append, List.nil_append, hm22] at F30 N30
  o_steps
  ·rename_i hA
   obtain rfl : lab = ANYS := by simpa using hA
   (rename Fr _ _ _ _ => F31; rename News _ _ _ _ => N31; try rename Heap => hz31)
   have S31 := S30.same (hm22 ▸ F31) N31 (by w_tidy)
   have tk31 := S30.tk (S30.kp F31 N31 (by w_tidy))
   have kb31 := kb30.tk tk31
   have nb31 := nb30.tk tk31
   clear S30 kb30 nb30
   refine wpAny_call ?_
   refine d_set_default (k := k) (j := nextL Ar k ANYS) H ?_ S31.d ⟨b, rfl, kb31⟩ ⟨b2, rfl, nb31⟩ ((S31.gk k).mpr okk) ?_ ?_ ?_ fun h32 tk32 Y' hoff tkk d32 => ?_
   ·exact fun b o e => F31.keep _ _ (sub0 b o e)
   ·exact fun m hm hmm => Nat.le_trans (dom4_le hm fun a ha => ((S31.gk a).mp (hmm a ha)).1) (by decide)
   ·exact (rmL hd1 rfl : dp + 6 < recursionLimit)
   ·exact (rmL hu rfl : un + 23 < cLine)
   have S32 := S31.dfa (fun b o nb e => hoff b o (by simp; rintro rfl; exact nb S31.d.pe) e) tkk (fun b q => .inl q) d32 (fun b pb => hg0 b (S31.hP b (.inl pb)).2.2) (shl S31.toLed (by omega_side) (by omega_side)) rfl rfl
   have kb32 := kb31.tk tkk
   try dsimp only
   have F32 := S32.F
   have N32 := S32.all
   simp only [List.cons_append, List.nil_append, hm22] at F32 N32
   o_steps
   exact hG h32 _ _ _ _ F32 S32.endN (Led.endA hownI hf3) (fun _ k9 => k9 h32 _ own arr c Fl Se Y' _ P rfl rfl rfl rfl rfl S32 kb32 ((x12 (S32.d.vi) fun b e _ => ⟨b, e⟩)) (fun a ha => .inl (hownI a ha)) hFS3 hμ3 (htake ▸ hI3.any hHas hin))
  rename_i hA
  have hA : lab ≠ ANYS := by simpa using hA
  (rename Fr _ _ _ _ => F31; rename News _ _ _ _ => N31; try rename Heap => hz31)
  have S31 := S30.same (hm22 ▸ F31) N31 (by w_tidy)
  have tk31 := S30.tk (S30.kp F31 N31 (by w_tidy))
  have kb31 := kb30.tk tk31
  have nb31 := nb30.tk tk31
  clear S30 kb30 nb30
  refine wpAny_call ?_
  refine d_add_trans (k := k) (j := nextL Ar k lab) H ?_ S31.d ⟨b, rfl, kb31⟩ ⟨b2, rfl, nb31⟩ ((S31.gk k).mpr okk) ((S31.gl lab).mpr ?_) ?_ ?_ ?_ ?_ fun h32 tk32 Y' P' hoff tkk hP' d32 => ?_
  ·exact fun b o e => F31.keep _ _ (sub0 b o e)
  ·obtain ⟨a, _, b, q⟩ := hHas; exact ⟨a, b, q⟩
  ·exact fun m hm hmm => Nat.le_trans (dom4_le hm fun a ha => ((S31.gk a).mp (hmm a ha)).1) (by decide)
  ·exact fun m hm hmm => Nat.le_trans (hlab m hm fun a ha => (S31.gl a).mp (hmm a ha)) (by decide)
  ·exact (rmL hd1 rfl : dp + 6 < recursionLimit)
  ·exact (rmL hu rfl : un + 23 < cLine)
  have S32 := S31.dfa hoff tkk hP' d32 (fun b pb => hg0 b (S31.hP b (.inl pb)).2.2) (shl S31.toLed (by omega_side) (by omega_side)) rfl rfl
  have kb32 := kb31.tk tkk
  try dsimp only
  have F32 := S32.F
  have N32 := S32.all
  simp only [List.cons_append, List.nil_append, hm22] at F32 N32
  o_steps
  exact hG h32 _ _ _ _ F32 S32.endN (Led.endA hownI hf3) (fun _ k9 => k9 h32 _ own arr c Fl Se Y' _ P' rfl rfl rfl rfl rfl S32 kb32 ((x12 (S32.d.vi) fun b e _ => ⟨b, e⟩)) (fun a ha => .inl (hownI a ha)) hFS3 hμ3 (htake ▸ hI3.arc hE hA hHas hin))
 ·rintro mz2 news2 hz19 tkz2 drz2 - hJ9
  refine Chu.out hJ9 ?_
  clear hJ9
  rintro hX mX own' arr c Fl Se Y M P m1 m2 m3 m4 m5 SX kbX hv2 hown' hFS2 hμ2 hI2 F19 N19
  have S19 := SX.step (fr' := [(l1, listO arr.toArray c), (x, instObj 229 dx), (dx, nfaD w t f (.int i ti) t1 t2 t3 n)]) F19 N19 (fun q hq => List.mem_append_right _ hq) (fun q hq => List.mem_append_left _ hq)
   (fun q hq => SX.nt q (List.mem_append_left _ hq)) (fun q hq => .inl (List.mem_map_of_mem (List.mem_append_left _ hq)))
  have F19 := fr_put (Str.ofString "self") (fr_put (Str.ofString "dfa") (fr_put (Str.ofString "frontier") (fr_put (Str.ofString "seen") S19.F m4) (by exact m3)) (by exact m2)) (by exact m1)
  try dsimp only
  o_steps
  rw [← Array.length_toList, strs_len hst, List.take_length] at hI2
  exact hGW hz19 _ _ _ _ _ F19 S19.all hμ2 (fun _ k9 => k9 hz19 _ arr c Fl Se _ Y M P rfl hFS2 rfl rfl rfl rfl S19 hv2 (hI2.end fun lab h => (hlss lab).mpr h))
end
-- RenSt
section
open PySem PySem.W PyProof.Rows PySem.Calls
noncomputable def Num (ks : List (List Int)) (k : List Int) (n : Int) : Prop := ∃ i : Nat, ks[i]? = some k /\ n = 1 + i
section
variable {ks ks' : List (List Int)} {k k' : List Int} {n n' : Int}
theorem Num.inj (hn : ks.Nodup) (a : Num ks k n) (b : Num ks k n') : n = n' := by
 refine x12 a fun i hi q91 => ?_; subst q91
 refine x12 b fun j hj q92 => ?_; subst q92
 have h1 := List.getElem?_eq_some_iff.mp hi
 have h2 := List.getElem?_eq_some_iff.mp hj
 refine x11 h1 fun p1 q1 => ?_
 refine x11 h2 fun p2 q2 => ?_
 have := (List.nodup_iff_pairwise_ne.mp hn)
 rcases Nat.lt_trichotomy i j with q | q | q
 ·exact absurd (q1.trans q2.symm) (List.pairwise_iff_getElem.mp this i j p1 p2 q)
 ·rw [q]
 ·exact absurd (q2.trans q1.symm) (List.pairwise_iff_getElem.mp this j i p2 p1 q)
theorem Num.key (a : Num ks k n) (b : Num ks k' n) : k = k' := by
 obtain ⟨i, hi, e⟩ := a
 obtain ⟨j, hj, rfl⟩ := b
 have : i = j := by lia
 subst this
 rw [hi] at hj; cases hj; rfl
theorem Num.mono (a : Num ks k n) (h : ∃ r, ks' = ks ++ r) : Num ks' k n := by
 refine x12 a fun i hi e => ?_
 obtain ⟨r, rfl⟩ := h
 refine ⟨i, ?_, e⟩
 rw [List.getElem?_append_left (List.getElem?_eq_some_iff.mp hi).1]; exact hi
theorem Num.bound (a : Num ks k n) : 1 ≤ n /\ n ≤ ks.length := by
 refine x12 a fun i hi q95 => ?_; subst q95
 have := (List.getElem?_eq_some_iff.mp hi).1
 lia
theorem num_of {l : List (List Int × Value)} {t : Tok} (hN : NumAre 1 l) (hn : (l.map (·.1)).Nodup) (h : (k, Value.int n t) ∈ l) : Num (l.map (·.1)) k n := by
 refine x11 (List.mem_iff_getElem?.mp h) fun i hi => ?_
 refine x11 (hN _ _ _ hi) fun t' e => ?_
 cases e
 exact ⟨i, by rw [List.getElem?_map, hi]; rfl, rfl⟩
end
structure RenR (ks : List (List Int)) (k0 : List Int) (T : List Int -> Str -> List Int -> Prop) (Df : List Int -> List Int -> Prop) (Fn : List Int -> Prop) (N : DMod Int) : Prop where
 nd : ks.Nodup
 k0 : Num ks k0 N.k0
 tr1 : ∀ k lab k', T k lab k' -> ∃ n n', Num ks k n /\ Num ks k' n' /\ N.tr n lab = some n'
 tr2 : ∀ n lab n', N.tr n lab = some n' -> ∃ k k', Num ks k n /\ Num ks k' n' /\ T k lab k'
 df1 : ∀ k k', Df k k' -> ∃ n n', Num ks k n /\ Num ks k' n' /\ N.df n = some n'
 df2 : ∀ n n', N.df n = some n' -> ∃ k k', Num ks k n /\ Num ks k' n' /\ Df k k'
 fin1 : ∀ k, Fn k -> ∃ n, Num ks k n /\ N.fin n
 fin2 : ∀ n, N.fin n -> ∃ k, Num ks k n /\ Fn k
section
variable {ks ks' : List (List Int)} {k0 k k' : List Int} {n n' : Int} {lab : Str} {T : List Int -> Str -> List Int -> Prop} {Df : List Int -> List Int -> Prop} {Fn : List Int -> Prop} {N : DMod Int}
theorem RenR.grow (R : RenR ks k0 T Df Fn N) (h : ∃ r, ks' = ks ++ r) (nd : ks'.Nodup) : RenR ks' k0 T Df Fn N where
 nd := nd
 k0 := R.k0.mono h
 tr1 := fun k lab k' t => x23 (R.tr1 k lab k' t) fun n n' a b c => ⟨n, n', a.mono h, b.mono h, c⟩
 tr2 := fun n lab n' t => x23 (R.tr2 n lab n' t) fun k k' a b c => ⟨k, k', a.mono h, b.mono h, c⟩
 df1 := fun k k' t => x23 (R.df1 k k' t) fun n n' a b c => ⟨n, n', a.mono h, b.mono h, c⟩
 df2 := fun n n' t => x23 (R.df2 n n' t) fun k k' a b c => ⟨k, k', a.mono h, b.mono h, c⟩
 fin1 := fun k t => x12 (R.fin1 k t) fun n a c => ⟨n, a.mono h, c⟩
 fin2 := fun n t => x12 (R.fin2 n t) fun k a c => ⟨k, a.mono h, c⟩
theorem RenR.arc (R : RenR ks k0 T Df Fn N) (a : Num ks k n) (b : Num ks k' n') (hf : ∀ k2, T k lab k2 -> k2 = k') : RenR ks k0 (fun x l y => T x l y ∨ (x = k /\ l = lab /\ y = k')) Df Fn { N with tr := fun x l => if x = n /\ l = lab then some n' else N.tr x l } := { R with
 tr1 := fun x l y t => by
  by_cases q : x = k /\ l = lab
  ·refine x02 q fun q96 q97 => ?_; subst q96; subst q97
   have : y = k' := t.elim (hf y) fun t => t.2.2
   subst this
   exact ⟨n, n', a, b, by simp⟩
  ·refine x23 (R.tr1 x l y (t.resolve_right fun t => q ⟨t.1, t.2.1⟩)) fun m m' p1 p2 p3 => ?_
   refine ⟨m, m', p1, p2, ?_⟩
   dsimp only
   rw [if_neg]
   ·exact p3
   ·rintro ⟨rfl, rfl⟩; exact q ⟨p1.key a, rfl⟩
 tr2 := fun m l m' t => by
  dsimp only at t
  split at t
  ·rename_i q
   refine x02 q fun q98 q99 => ?_; subst q98; subst q99
   cases t
   exact ⟨k, k', a, b, .inr ⟨rfl, rfl, rfl⟩⟩
  ·refine x23 (R.tr2 m l m' t) fun x y p1 p2 p3 => ?_
   exact ⟨x, y, p1, p2, .inl p3⟩ }
theorem RenR.dflt (R : RenR ks k0 T Df Fn N) (a : Num ks k n) (b : Num ks k' n') (hf : ∀ k2, Df k k2 -> k2 = k') : RenR ks k0 T (fun x y => Df x y ∨ (x = k /\ y = k')) Fn { N with df := fun x => if x = n then some n' else N.df x } := { R with
 df1 := fun x y t => by
  by_cases q : x = k
  ·subst q
   have : y = k' := t.elim (hf y) fun t => t.2
   subst this
   exact ⟨n, n', a, b, by simp⟩
  ·refine x23 (R.df1 x y (t.resolve_right fun t => q t.1)) fun m m' p1 p2 p3 => ?_
   refine ⟨m, m', p1, p2, ?_⟩
   dsimp only
   rw [if_neg]
   ·exact p3
   ·rintro rfl; exact q (p1.key a)
 df2 := fun m m' t => by
  dsimp only at t
  split at t
  ·rename_i q
   subst q
   cases t
   exact ⟨k, k', a, b, .inr ⟨rfl, rfl⟩⟩
  ·refine x23 (R.df2 m m' t) fun x y p1 p2 p3 => ?_
   exact ⟨x, y, p1, p2, .inl p3⟩ }
theorem RenR.fin (R : RenR ks k0 T Df Fn N) (a : Num ks k n) : RenR ks k0 T Df (fun x => Fn x ∨ x = k) { N with fin := fun x => x = n ∨ N.fin x } := { R with
 fin1 := fun x t => t.elim (fun t => x12 (R.fin1 x t) fun m p q => ⟨m, p, .inr q⟩) fun e => e ▸ ⟨n, a, .inl rfl⟩
 fin2 := fun m t => t.elim (fun e => e ▸ ⟨k, a, .inr rfl⟩) fun t => x12 (R.fin2 m t) fun x p q => ⟨x, p, .inl q⟩ }
theorem RenR.run {M : DMod (List Int)} (R : RenR ks M.k0 (fun k lab k' => M.tr k lab = some k') (fun k k' => M.df k = some k') M.fin N) : ∀ (m : Nat) (cs : List Nat), cs.length = m -> (runD M cs = none /\ runD N cs = none) ∨ ∃ k n, runD M cs = some k /\ runD N cs = some n /\ Num ks k n := by
 intro m
 induction m with
 | zero =>
  intro cs hl
  have : cs = [] := List.eq_nil_of_length_eq_zero hl
  subst this
  exact .inr ⟨_, _, rfl, rfl, R.k0⟩
 | succ m ih =>
  intro cs hl
  rcases snoc_cases cs with rfl | ⟨ds, c, rfl⟩
  ·cases hl
  ·have e1 : ∀ {K : Type} (M : DMod K), runD M (ds ++ [c]) = (runD M ds).bind fun k => M.next k ⟨#[c]⟩ := fun M => by unfold runD; rw [List.foldl_append]; rfl
   rcases ih ds (by simpa using hl) with ⟨a, b⟩ | ⟨k, n, a, b, hkn⟩
   ·exact .inl ⟨by rw [e1, a]; rfl, by rw [e1, b]; rfl⟩
   ·rw [e1, e1, a, b, Option.bind_some, Option.bind_some]
    unfold DMod.next
    cases h1 : M.tr k ⟨#[c]⟩ with
    | some k' =>
     refine x23 (R.tr1 _ _ _ h1) fun n2 n' p1 p2 p3 => ?_
     rw [Num.inj R.nd p1 hkn] at p3
     rw [p3]
     exact .inr ⟨k', n', rfl, rfl, p2⟩
    | none =>
     have h2 : N.tr n ⟨#[c]⟩ = none := by
      cases e : N.tr n ⟨#[c]⟩ with
      | none => rfl
      | some n' =>
       refine x23 (R.tr2 _ _ _ e) fun k2 k' p1 p2 p3 => ?_
       rw [p1.key hkn, h1] at p3; cases p3
     refine (h2).symm ▸ ?_
     dsimp only
     cases h3 : M.df k with
     | some k' =>
      refine x23 (R.df1 _ _ h3) fun n2 n' p1 p2 p3 => ?_
      rw [Num.inj R.nd p1 hkn] at p3
      refine (p3).symm ▸ ?_
      exact .inr ⟨k', n', rfl, rfl, p2⟩
     | none =>
      refine .inl ⟨rfl, ?_⟩
      cases e : N.df n with
      | none => rfl
      | some n' =>
       refine x23 (R.df2 _ _ e) fun k2 k' p1 p2 p3 => ?_
       rw [p1.key hkn, h3] at p3; cases p3
end
structure RnSt (prog : Program) (w : World) (hz0 g sh : Heap) (L : Addr) (fr : List (Addr × Obj)) (D x2 : Addr) (lm : List (List Int × Value)) (Y2 : DLay Int) (N : DMod Int) (P2 : Addr -> Prop) (h : Heap) (m : Str -> Option Value) : Prop
  extends Hs g sh L fr (fun h => DictAt (dTup prog w) h D lm /\ DfaM (kkInt prog w) hz0 P2 h x2 Y2 N) (fun b => b = D ∨ (P2 b ∨ b = x2 ∨ b = Y2.dx)) h m where
 dj : ∀ b, P2 b ∨ b = x2 ∨ b = Y2.dx -> b ≠ D
section
variable {prog : Program} {w : World} {hz0 g sh : Heap} {L : Addr} {fr fr' : List (Addr × Obj)} {D x2 : Addr} {lm lm' : List (List Int × Value)} {Y2 Y2' : DLay Int} {N N' : DMod Int} {P2 P2' : Addr -> Prop} {h h' : Heap} {m m' : Str -> Option Value}
theorem RnSt.up (S : RnSt prog w hz0 g sh L fr D x2 lm Y2 N P2 h m) {fr' h' m'} (S' : Hs g sh L fr' (fun h => DictAt (dTup prog w) h D lm /\ DfaM (kkInt prog w) hz0 P2 h x2 Y2 N) (fun b => b = D ∨ (P2 b ∨ b = x2 ∨ b = Y2.dx)) h' m') : RnSt prog w hz0 g sh L fr' D x2 lm Y2 N P2 h' m' := ⟨S', S.dj⟩
theorem RnSt.remap (S : RnSt prog w hz0 g sh L fr D x2 lm Y2 N P2 h m) (k : OffKeep [D] h h') (tk : TupKeep h h') (DD : DictAt (dTup prog w) h' D lm') (hg : ∀ b, sh.get? b = none -> g.get? b = none) (hsh : ∀ b, h.get? b = none -> sh.get? b = none) : RnSt prog w hz0 g sh L fr D x2 lm' Y2 N P2 h' m :=
 ⟨S.toHs.change (fun b o n e => k b o (by simp only [List.mem_singleton]; exact fun q => n (.inl q)) e) (fun b q => .inl q) (Part.and Part.dict Part.dfa) ⟨DD, S.phi.2.move (fun b o q e => k b o (by simpa using S.dj b q) e) tk⟩ hg hsh, S.dj⟩
theorem RnSt.dfa (S : RnSt prog w hz0 g sh L fr D x2 lm Y2 N P2 h m) (k : ∀ b o, ¬ P2 b -> h.get? b = some o -> h'.get? b = some o) (tk : TupKeep h h') (hP' : ∀ b, P2' b -> P2 b ∨ h.get? b = none) (d' : DfaM (kkInt prog w) hz0 P2' h' x2 Y2' N') (hg : ∀ b, sh.get? b = none -> g.get? b = none) (hsh : ∀ b, h.get? b = none -> sh.get? b = none) : RnSt prog w hz0 g sh L fr D x2 lm Y2' N' P2' h' m := by
 have ey : Y2'.dx = Y2.dx := by
  have e1 := k _ _ S.phi.2.px S.phi.2.ox
  rw [d'.ox] at e1
  injection e1 with e1
  injection e1 with _ e1
  injection e1 with e1
 obtain ⟨oD, hoD⟩ : ∃ o, h.get? D = some o := let ⟨_, es, ep, e, _⟩ := S.phi.1; ⟨_, e⟩
 have nD : ¬ P2 D := fun q => S.dj D (.inl q) rfl
 refine ⟨S.toHs.change (fun b o n e => k b o (fun q => n (.inr (.inl q))) e) (fun b q => ?_) (Part.and Part.dict Part.dfa) ⟨S.phi.1.keep (fun o e => k _ o nD e) tk, d'⟩ hg hsh, fun b q => ?_⟩
 ·rw [ey] at q
  rcases q with q | q | q
  ·exact .inl (.inl q)
  ·exact (hP' b q).elim (fun q => .inl (.inr (.inl q))) .inr
  ·exact .inl (.inr (.inr q))
 ·rw [ey] at q
  refine Or.elim (q) (fun q => ?_) fun q => ?_
  ·refine Or.elim (hP' b q) (fun q => ?_) fun q => ?_
   ·exact S.dj b (.inl q)
   ·rintro rfl; rw [hoD] at q; cases q
  ·exact S.dj b (.inr q)
theorem RnSt.allD (S : RnSt prog w hz0 g sh L fr D x2 lm Y2 N P2 h m) (hg : ∀ b, sh.get? b = none -> g.get? b = none) : News g L h ((x2, instObj 327 Y2.dx) :: (Y2.dx, Y2.obj w) :: (fr ++ allOf g L (fr.map (·.1)) h)) :=
 news_cons (news_cons S.all S.phi.2.od (S.as _ (.inr (.inr (.inr rfl)))).1.1 (hg _ (S.as _ (.inr (.inr (.inr rfl)))).2)) S.phi.2.ox (S.as _ (.inr (.inr (.inl rfl)))).1.1 (hg _ (S.as _ (.inr (.inr (.inl rfl)))).2)
end
theorem ints16 {m : List Int} (hn : m.Nodup) (h : ∀ a ∈ m, 1 ≤ a /\ a ≤ 16) : m.length ≤ 16 :=
 nodup_le (l2 := (List.range 16).map fun i : Nat => (i : Int) + 1) hn fun a ha => List.mem_map.mpr ⟨(a - 1).toNat, List.mem_range.mpr ((Int.toNat_lt (Int.sub_nonneg_of_le (h a ha).1)).mpr (Int.sub_lt_sub_right (Int.lt_add_one_of_le (h a ha).2) 1)), by rw [Int.toNat_of_nonneg (Int.sub_nonneg_of_le (h a ha).1), Int.sub_add_cancel]⟩
structure RnInv (M : DMod (List Int)) (lm : List (List Int × Value)) (N : DMod Int) (T : List Int -> Str -> List Int -> Prop) (Df : List Int -> List Int -> Prop) (Fn : List Int -> Prop) : Prop where
 num : NumAre 1 lm
 dom : ∀ x ∈ lm.map (·.1), dom4 x
 ren : RenR (lm.map (·.1)) M.k0 T Df Fn N
 gk : N.gk = fun n => 1 ≤ n /\ n ≤ 16
 gl : N.gl = M.gl
 tr : ∀ a l b, T a l b -> M.tr a l = some b
 df : ∀ a b, Df a b -> M.df a = some b
 fin : ∀ a, Fn a -> M.fin a
section
variable {M : DMod (List Int)} {lm lm' : List (List Int × Value)} {N : DMod Int} {T : List Int -> Str -> List Int -> Prop} {Df : List Int -> List Int -> Prop} {Fn : List Int -> Prop} {k k' : List Int} {n n' : Int} {lab : Str}
theorem RnInv.gkOf (I : RnInv M lm N T Df Fn) (a : Num (lm.map (·.1)) k n) : N.gk n := by
 rw [I.gk]
 have := a.bound
 have := dom4_le I.ren.nd I.dom
 lia
theorem RnInv.grow (I : RnInv M lm N T Df Fn) (nm : NumAre 1 lm') (hd : ∀ x ∈ lm'.map (·.1), dom4 x) (h : ∃ r, lm'.map (·.1) = lm.map (·.1) ++ r) (nd : (lm'.map (·.1)).Nodup) : RnInv M lm' N T Df Fn := { I with num := nm, dom := hd, ren := I.ren.grow h nd }
theorem RnInv.arc (I : RnInv M lm N T Df Fn) (a : Num (lm.map (·.1)) k n) (b : Num (lm.map (·.1)) k' n') (h : M.tr k lab = some k') : RnInv M lm { N with tr := fun x l => if x = n /\ l = lab then some n' else N.tr x l } (fun x l y => T x l y ∨ (x = k /\ l = lab /\ y = k')) Df Fn := { I with
 ren := I.ren.arc a b fun k2 t => by have := I.tr _ _ _ t; rw [h] at this; cases this; rfl
 tr := fun x l y t => t.elim (I.tr x l y) fun q87 => x03 q87 fun e1 e2 e3 => by rw [e1, e2, e3]; exact h }
theorem RnInv.dflt (I : RnInv M lm N T Df Fn) (a : Num (lm.map (·.1)) k n) (b : Num (lm.map (·.1)) k' n') (h : M.df k = some k') : RnInv M lm { N with df := fun x => if x = n then some n' else N.df x } T (fun x y => Df x y ∨ (x = k /\ y = k')) Fn := { I with
 ren := I.ren.dflt a b fun k2 t => by have := I.df _ _ t; rw [h] at this; cases this; rfl
 df := fun x y t => t.elim (I.df x y) fun q88 => x02 q88 fun e1 e2 => by rw [e1, e2]; exact h }
theorem RnInv.final (I : RnInv M lm N T Df Fn) (a : Num (lm.map (·.1)) k n) (h : M.fin k) : RnInv M lm { N with fin := fun x => x = n ∨ N.fin x } T Df (fun x => Fn x ∨ x = k) := { I with
 ren := I.ren.fin a
 fin := fun x t => t.elim (I.fin x) fun e => e ▸ h }
theorem Num.of_prefix {ks ks' : List (List Int)} (a : Num ks k n) (h : ∃ r, ks' = ks ++ r) : Num ks' k n := a.mono h
end
end
-- Renum
section
open PySem PySem.W PyProof.Rows PySem.Calls
theorem off_Renum : True := by
 w_top off
 trivial
noncomputable def RnA (prog : Program) (w : World) (hz0 : Heap) (g : Heap) (s : Shared) (D : Addr) (f : Addr) (xd : Addr) (x2 : Addr) (fr7 : List (Addr × Obj)) (h6 : Heap) (Y : DLay (List Int)) (M : DMod (List Int)) (i : Nat) (m : Str -> Option Value) (G9 : List (Addr × Obj) -> Prop) : Prop := ∀ (hX : Heap) (mX : Str -> Option Value) (own : List (Addr × Obj)) (lm : List (List Int × Value)) (Y2 : DLay Int) (N : DMod Int) (P2 : Addr -> Prop) (T : List Int -> Str -> List Int -> Prop) (q0 : m (Str.ofString "dfa") = some (.ref xd)) (q1 : m (Str.ofString "remap") = some (.ref f)) (q2 : m (Str.ofString "newdfa") = some (.ref x2)) (q4 : RnSt prog w hz0 g s.heap s.heap.objs.size (fr7 ++ own) D x2 lm Y2 N P2 hX mX) (q5 : (h6.objs.size ∈ own.map (·.1) ∨ hX.get? h6.objs.size = none)) (q6 : RnInv M lm N T (fun _ _ => False) (fun _ => False)) (q7 : ∀ a ∈ (Y.l.take i).map Prod.fst, ∀ l b, M.tr a l = some b -> T a l b), G9 (fr7 ++ allOf g s.heap.objs.size ((fr7 ++ own).map (·.1)) hX)
noncomputable def RnB (prog : Program) (w : World) (hz0 : Heap) (g : Heap) (s : Shared) (D : Addr) (f : Addr) (xd : Addr) (x2 : Addr) (fr7 : List (Addr × Obj)) (h10 : Heap) (Y : DLay (List Int)) (M : DMod (List Int)) (own : List (Addr × Obj)) (i : Nat) (k : List Int) (kr : Addr) (j : Nat) (m : Str -> Option Value) (G9 : List (Addr × Obj) -> Prop) : Prop := ∀ (hX : Heap) (mX : Str -> Option Value) (own2 : List (Addr × Obj)) (lm : List (List Int × Value)) (Y2 : DLay Int) (N : DMod Int) (P2 : Addr -> Prop) (T : List Int -> Str -> List Int -> Prop) (q0 : m (Str.ofString "dfa") = some (.ref xd)) (q1 : m (Str.ofString "remap") = some (.ref f)) (q2 : m (Str.ofString "newdfa") = some (.ref x2)) (q3 : m (Str.ofString "src") = some (.ref kr)) (q5 : RnSt prog w hz0 g s.heap s.heap.objs.size ((fr7 ++ own) ++ own2) D x2 lm Y2 N P2 hX mX) (q6 : (h10.objs.size ∈ own2.map (·.1) ∨ hX.get? h10.objs.size = none)) (q7 : RnInv M lm N T (fun _ _ => False) (fun _ => False)) (q8 : (∀ a ∈ (Y.l.take i).map Prod.fst, ∀ l b, M.tr a l = some b -> T a l b)) (q9 : ∀ l ∈ ((Y.lOf k).take j).map Prod.fst, ∀ b, M.tr k l = some b -> T k l b), G9 ((fr7 ++ own) ++ allOf g s.heap.objs.size (((fr7 ++ own) ++ own2).map (·.1)) hX)
noncomputable def RnC (prog : Program) (w : World) (hz0 : Heap) (g : Heap) (s : Shared) (D : Addr) (f : Addr) (xd : Addr) (x2 : Addr) (fr7 : List (Addr × Obj)) (h9 : Heap) (hz7 : Heap) (r9 : Addr) (M : DMod (List Int)) (T : List Int -> Str -> List Int -> Prop) (out : Array Value) (lf : List (List Int)) (i : Nat) (m : Str -> Option Value) (G9 : List (Addr × Obj) -> Prop) : Prop := ∀ (hX : Heap) (mX : Str -> Option Value) (own : List (Addr × Obj)) (lm : List (List Int × Value)) (Y2 : DLay Int) (N : DMod Int) (P2 : Addr -> Prop) (Fn : List Int -> Prop) (q0 : m (Str.ofString "dfa") = some (.ref xd)) (q1 : m (Str.ofString "remap") = some (.ref f)) (q2 : m (Str.ofString "newdfa") = some (.ref x2)) (q4 : RnSt prog w hz0 g s.heap s.heap.objs.size (fr7 ++ own) D x2 lm Y2 N P2 hX mX) (q5 : (∀ a ∈ [h9.objs.size, r9], a ∈ own.map (·.1) ∨ hX.get? a = none)) (q6 : TupKeep hz7 hX) (q7 : RnInv M lm N T (fun _ _ => False) Fn) (q8 : ∀ v ∈ out.toList.take i, ∀ b k, v = Value.ref b -> k ∈ lf -> IsTI hz7 k b -> Fn k), G9 (fr7 ++ allOf g s.heap.objs.size ((fr7 ++ own).map (·.1)) hX)
noncomputable def RnD (prog : Program) (w : World) (hz0 : Heap) (g : Heap) (s : Shared) (D : Addr) (f : Addr) (x2 : Addr) (fr7 : List (Addr × Obj)) (h13 : Heap) (Y : DLay (List Int)) (M : DMod (List Int)) (T : List Int -> Str -> List Int -> Prop) (Fn : List Int -> Prop) (i : Nat) (m : Str -> Option Value) (G9 : List (Addr × Obj) -> Prop) : Prop := ∀ (hX : Heap) (mX : Str -> Option Value) (own : List (Addr × Obj)) (lm : List (List Int × Value)) (Y2 : DLay Int) (N : DMod Int) (P2 : Addr -> Prop) (Df : List Int -> List Int -> Prop) (q0 : m (Str.ofString "remap") = some (.ref f)) (q1 : m (Str.ofString "newdfa") = some (.ref x2)) (q3 : RnSt prog w hz0 g s.heap s.heap.objs.size (fr7 ++ own) D x2 lm Y2 N P2 hX mX) (q4 : (h13.objs.size ∈ own.map (·.1) ∨ hX.get? h13.objs.size = none)) (q5 : RnInv M lm N T Df Fn) (q6 : ∀ a ∈ (Y.le.take i).map Prod.fst, ∀ b, M.df a = some b -> Df a b), G9 (fr7 ++ allOf g s.heap.objs.size ((fr7 ++ own).map (·.1)) hX)
variable {prog : Program} {w : World} {p : Program} {loose : List Str} {mean : ExcName -> Option Value} {mg mb : Str -> Option Value} {hz0 : Heap}
variable {s : Shared} {dp un : Nat} {fr : List Env} {gd : Option (List Code)} {R : Result -> Shared -> Prop}
variable {P : Addr -> Prop} {xd : Addr} {Y : DLay (List Int)} {M : DMod (List Int)}
theorem renum_c {tb : Tok} (H : Base (hd.heap_1 w.params) p loose mean mg mb hz0) (hk : ∀ b o, hz0.get? b = some o -> s.heap.get? b = some o)
  (CH : CodeHd hz0 336 332) (ht : s.heap.get? 332 = some (tabObj #[])) (ht0 : hz0.get? 332 = none)
  (V : DfaM (kkTup prog w dom4 hdom4) hz0 P s.heap xd Y M) (hPt : ¬ P 332) (hv0 : ∃ b, Y.v0 = .ref b) (hk0 : dom4 M.k0) (htr : ∀ a lab k', M.tr a lab = some k' -> dom4 a /\ dom4 k') (hdf : ∀ a k', M.df a = some k' -> dom4 a /\ dom4 k') (hfi : ∀ a, M.fin a -> dom4 a /\ a ≠ []) (hgl : ∀ m : List Str, m.Nodup -> (∀ a ∈ m, M.gl a) -> m.length ≤ 18)
  (hd1 : dp + 39 < recursionLimit) (hu : un + 160 < cLine)
  (hR : ∀ (h' : Heap) (tk : Nat) (dr : Drawn) (x2 : Addr) (Y2 : DLay Int) (N : DMod Int) (P2 : Addr -> Prop) (ks : List (List Int)), OffKeep [332] s.heap h' -> (∃ ps, h'.get? 332 = some (tabObj ps)) -> (∀ b, P2 b ∨ b = x2 ∨ b = Y2.dx -> s.heap.get? b = none) -> DfaM (kkInt prog w) hz0 P2 h' x2 Y2 N -> (N.gk = fun n => 1 ≤ n /\ n ≤ 16) -> ks.length ≤ 16 ->
   RenR ks M.k0 (fun k lab k' => M.tr k lab = some k') (fun k k' => M.df k = some k') M.fin N -> R (.ok (.ret (.ref x2))) { s with heap := h', toks := tk, drawn := dr }) :
  codeAny (model prog w) (A0 dp un fr gd) (.call (.ref 337) ⟨[.ref xd, .int 1 tb], []⟩) R s := by
 have hN : ∀ q ∈ [(xd, instObj 327 Y.dx), (Y.dx, Y.obj w), (332, tabObj #[])], s.heap.get? q.1 = some q.2 /\ hz0.get? q.1 = none := by
  intro q hq
  rcases List.mem_cons.mp hq with rfl | hq
  ·exact ⟨V.ox, V.x0⟩
  ·rcases List.mem_cons.mp hq with rfl | hq
   ·exact ⟨V.od, V.d0⟩
   ·simp at hq; subst hq; exact ⟨ht, ht0⟩
 refine x11 hv0 fun bv hbv => ?_
 unfold DLay.obj at hN
 rw [hbv] at hN
 k_dflt (refine' enterC _ ?kH ?kk ?kN ?ko ?kcd ?kroom ?kb ?kkd ?knd ?_ ?c2 ?c3 ?c4; (case kH => assumption); (case kk => assumption); (case kN => assumption); (case ko => k_is); (case kcd => k_is); (case kroom => exact Nat.lt_of_le_of_lt (Nat.le_add_right _ _) (by assumption)); (case kb => exact binds_K (H.X.keeps hk) rfl (by k_is) rfl rfl rfl); (case kkd => exact kindsX rfl); (case knd => decide); (case c2 => exact rfl); (case c3 => exact rfl); (case c4 => exact rfl))
 k_whole
 intro g hz1 tk cells Hg Hs Hk F N CE X T
 (try dsimp only)
 refine x23 CE.two fun o1 o2 q91 e1 e2 => ?_; subst q91
 dsimp only [List.cons_append, List.nil_append] at N
 have e1 : o1.data = .cell none := e1
 have e2 : o2.data = .cell (some (.int 1 tb)) := e2
 clear CE
 have lx := ltN (Heap.lt_size V.ox)
 have ld := ltN (Heap.lt_size V.od)
 have l3 := ltN (Heap.lt_size ht)
 have n1 := neN (a := xd) (b := 332) fun q => by have := V.ox; rw [q, ht] at this; cases this
 have n2 := neN (a := Y.dx) (b := 332) fun q => by have := V.od; rw [q, ht] at this; cases this
 have CHg := CH.keeps (sub_hide Hg hk (fun q hq => (hN q hq).2))
 o_steps
 rename_i D hA oD loD hsD fsD hiD fiD lD hB oM eM f c' oc vs tv ctv doc hC tkC dv1 dv2 lc lf hE F1 N1
 have DD : DictAt (dTup prog w) hE D [] := dictAt_new (N1.get (o := oD) (by k_mem)) hiD loD
 clear hsD fsD hiD fiD
 have hcr := codeRec_news (c := c') (oc := oc) N1 (by k_mem) dv1 dv2
 have freshS : ∀ b, g.get? b = none -> b ≠ xd -> b ≠ Y.dx -> b ≠ 332 -> s.heap.get? b = none := fun b e q1 q2 q3 => by
  cases e' : s.heap.get? b with
  | none => rfl
  | some o => rw [Hg _ _ e' (by simp [q1, q2, q3])] at e; cases e
 have hDg : g.get? D = none := N1.fresh (o := oD) (by k_mem)
 have Dx : D ≠ xd := Nat.ne_of_gt lD.2.2.1
 have Dd : D ≠ Y.dx := Nat.ne_of_gt lD.2.2.2.1
 have D3 : D ≠ 332 := Nat.ne_of_gt lD.2.2.2.2
 have sD := freshS D hDg Dx Dd D3
 have hg : ∀ b, s.heap.get? b = none -> g.get? b = none := fun b e => none_sub Hs e
 have Sz1 := hs_first (sh := s.heap) F1 N1 DD (by
  refine allC ?_ (allC ?_ (allC ?_ (allC ?_ (all3 ?_ ?_ ?_))))
  ·exact nt_cls (by show (Value.type "function") ≠ _; decide)
  ·rintro ⟨_, i, n, q⟩; rw [dv1] at q; cases q
  ·rintro ⟨_, i, n, q⟩; rw [eM] at q; cases q
  ·rintro ⟨_, i, n, q⟩; rw [e2] at q; cases q
  ·exact nt_cls (by show (Value.ref 327) ≠ _; decide)
  ·exact nt_cls (by show (Value.type "dict") ≠ _; decide)
  ·exact nt_cls (by show Value.none ≠ _; decide)) (by
  refine allC ?_ (allC ?_ (allC ?_ (allC ?_ (all3 ?_ ?_ ?_))))
  all_goals k_ne) sD
 have sub0 := sub_hide Hg hk (fun q hq => (hN q hq).2)
 have tkg : TupKeep s.heap g := tk_hide Hg (fun q hq => (hN q hq).1) (by
  refine all3 ?_ ?_ ?_
  ·show (Value.ref 327) ≠ _; decide
  ·show (Value.type "dict") ≠ _; decide
  ·show Value.none ≠ _; decide)
 have v0 : IsTI s.heap M.k0 bv := by
  refine x12 V.vi fun b e q => ?_
  rw [hbv] at e; cases e; exact q
 have v0E : IsTI hE M.k0 bv := v0.tk (tkg.trans fun b o e _ => F1.keep b o e)
 refine wpAny_call ?_
 refine remap_c (b := 1) (tb := tb) (cb := s.heap.objs.size + 1) (cm := s.heap.objs.size + 1 + 1) (D := D) (l := []) (k := M.k0) (ob := o2) (om := oM) H ?_ ⟨_, N1.get (by k_mem), rfl⟩ hcr DD ?_ (N1.get (by k_mem)) (N1.get (by k_mem)) e2 eM ?_ ?_ ?_ ?_ ?_ ?_ v0E (by decide) (by decide) ?_ ?_ fun h2 tk2 n1 t1 l1 hoff tkk D2 hN2 hm2 hl2 => ?_
 ·exact fun b o e => F1.keep _ _ (sub0 b o e)
 ·exact none_sub sub0 hDg
 ·exact none_sub sub0 (N1.fresh (a := s.heap.objs.size + 1) (o := o2) (by k_mem))
 ·exact none_sub sub0 (N1.fresh (a := s.heap.objs.size + 1 + 1) (o := oM) (by k_mem))
 ·k_ne
 ·k_ne
 ·k_ne
 ·exact fun i k v h => nomatch h
 ·exact (rmL hd1 rfl : dp + 6 < recursionLimit)
 ·exact (rmL hu rfl : un + 23 < cLine)
 have hshL : ∀ {fr : List (Addr × Obj)} {h : Heap} {m : Str -> Option Value}, Led g s.heap.objs.size fr h m -> (∀ a ∈ [xd, Y.dx, 332], a ∈ fr.map (·.1)) -> ∀ b, h.get? b = none -> s.heap.get? b = none := fun S hm b e => by
  cases e' : s.heap.get? b with
  | none => rfl
  | some o =>
   by_cases q : b ∈ [xd, Y.dx, 332]
   ·refine x12 (List.mem_map.mp (hm b q)) fun p hp q92 => ?_; subst q92
    rw [(S.N p hp).1] at e; cases e
   ·rw [S.F.keep _ _ (Hg _ _ e' (by simpa using q))] at e; cases e
 have Sz2 := Sz1.change (Φ' := fun h => DictAt (dTup prog w) h D l1) (Pf' := fun b => b = D) (h' := h2) (fun b o n e => hoff b o (by simpa using n) e) (fun b q => .inl q) Part.dict D2 hg (hshL Sz1.toLed (by omega_side))
 clear Sz1 F1 N1 D2 DD v0E
 have Fz2 := Sz2.F
 have Nz2 := Sz2.all
 dsimp only [List.cons_append, List.nil_append] at Nz2
 try dsimp only
 o_steps
 refine mk_dfa (kk := kkInt prog w) (k0 := n1) (v0 := .int n1 t1) (gk := fun n => 1 ≤ n /\ n ≤ 16) (gl := M.gl) H ?_ (.inr ⟨_, _, rfl⟩) ⟨t1, rfl⟩ ?_ ?_ fun h3 tk3 x2 Y2 P2 hk3 hP2 hv2 VD2 => ?_
 ·exact fun b o e => Fz2.keep _ _ (sub0 b o e)
 ·exact (rmL hd1 rfl : dp + 20 < recursionLimit)
 ·exact (rmL hu rfl : un + 83 < cLine)
 have Sz3 : RnSt prog w hz0 g s.heap s.heap.objs.size _ D x2 l1 Y2 _ P2 h3 _ := ⟨Sz2.change (Φ' := fun h => DictAt (dTup prog w) h D l1 /\ DfaM (kkInt prog w) hz0 P2 h x2 Y2 _) (Pf' := fun b => b = D ∨ (P2 b ∨ b = x2 ∨ b = Y2.dx)) (h' := h3) (fun b o _ e => hk3 b o e) (fun b q => q.elim .inl fun q => .inr (hP2 b q)) (Part.and Part.dict Part.dfa) ⟨Sz2.phi.stay hk3, VD2⟩ hg (hshL Sz2.toLed (by omega_side)),
  fun b q e => by
   have e1 := hP2 b q
   obtain ⟨_, es, ep, e', _⟩ := Sz2.phi
   rw [e] at e1
   have e2 := e1.symm.trans e'
   cases e2⟩
 clear Sz2 Fz2 Nz2 VD2
 have Fz3 := Sz3.F
 have Nz3 := Sz3.all
 dsimp only [List.cons_append, List.nil_append] at Nz3
 o_steps
 (rename Fr _ _ _ _ => F4; rename News _ _ _ _ => N4; try rename Heap => hz4)
 have hnum0 : Num (l1.map (·.1)) M.k0 n1 := num_of hN2 Sz3.phi.1.nodup hm2
 have hdom1 : ∀ x ∈ l1.map (·.1), dom4 x := by
  intro x hx
  rcases hl2 with e | ⟨_, e⟩ <;> rw [e] at hx
  ·cases hx
  ·simp at hx; rw [hx]; exact hk0
 have R3 : RenR (l1.map (·.1)) M.k0 (fun _ _ _ => False) (fun _ _ => False) (fun _ => False) ⟨n1, fun _ _ => none, fun _ => none, fun _ => False, fun n => 1 ≤ n /\ n ≤ 16, M.gl⟩ :=
  ⟨Sz3.phi.1.nodup, hnum0, fun _ _ _ h => h.elim, (fun _ _ _ h => nomatch h), fun _ _ h => h.elim, (fun _ _ h => nomatch h), fun _ h => h.elim, fun _ h => h.elim⟩
 have Sz4 := Sz3.up (Sz3.toHs.same F4 N4 (by w_tidy))
 let fr7 := ledOf Sz4.toLed
 have h37 : ∀ a ∈ [xd, Y.dx, 332], a ∈ fr7.map (·.1) := by omega_side
 have hcb : (s.heap.objs.size + 1, o2) ∈ fr7 := by k_sizes
 have hcm : (s.heap.objs.size + 1 + 1, oM) ∈ fr7 := by k_sizes
 obtain ⟨qual, pm, fo, hf1, hf2, hc1⟩ : ∃ qual pm fo, (f, fo) ∈ fr7 /\ fo.data = .func (fnX "remap" qual remapParts.1 remapParts.2.1 remapParts.2.2 [("mapping", s.heap.objs.size + 1 + 1), ("base", s.heap.objs.size + 1)] .none .none doc pm none (.ref c') ctv) /\ (c', oc) ∈ fr7 /\ vs[1]? = some (.str qual tv) :=
  ⟨_, _, _, by k_sizes, rfl, by k_sizes, dv2⟩
 have hcbm := neN (a := s.heap.objs.size + 1) (b := s.heap.objs.size + 1 + 1) (Nat.ne_of_lt (Nat.lt_succ_self _))
 have hcbD := neN (a := s.heap.objs.size + 1) (b := D) (Nat.ne_of_lt lD.2.1)
 have hcmD := neN (a := s.heap.objs.size + 1 + 1) (b := D) (Nat.ne_of_lt lD.1)
 have rm : ∀ {fr' : List (Addr × Obj)} {lm : List (List Int × Value)} {Y2 : DLay Int} {N : DMod Int} {P2 : Addr -> Prop} {hh : Heap} {m : Str -> Option Value} {tk : Nat} {dr : Drawn} {k : List Int} {kr : Addr} {dp' un' : Nat} {fr0 : List Env} {gd0 : Option (List Code)} {R' : Result -> Shared -> Prop},
   RnSt prog w hz0 g s.heap s.heap.objs.size fr' D x2 lm Y2 N P2 hh m -> (∀ q ∈ fr7, q ∈ fr') -> NumAre 1 lm -> IsTI hh k kr -> dom4 k -> (∀ x ∈ lm.map (·.1), dom4 x) -> dp' + 5 < recursionLimit -> un' + 20 < cLine ->
   (∀ h' tk' n t lm', RnSt prog w hz0 g s.heap s.heap.objs.size fr' D x2 lm' Y2 N P2 h' m -> TupKeep hh h' -> NumAre 1 lm' -> Num (lm'.map (·.1)) k n -> (∃ r, lm'.map (·.1) = lm.map (·.1) ++ r) -> (∀ x ∈ lm'.map (·.1), dom4 x) -> R' (.ok (.ret (.int n t))) { s with heap := h', toks := tk', drawn := dr }) ->
   codeAny (model prog w) (A0 dp' un' fr0 gd0) (.call (.ref f) ⟨[.ref kr], []⟩) R' { s with heap := hh, toks := tk, drawn := dr } := by
  intro fr' lm Y2 N P2 hh m tk dr k kr dp' un' fr0 gd0 R' S hsub hN hkr hdk hdl hd' hu' hR'
  refine remap_c (s := { s with heap := hh, toks := tk, drawn := dr }) (b := 1) (tb := tb) (cb := s.heap.objs.size + 1) (cm := s.heap.objs.size + 1 + 1) (D := D) (l := lm) (k := k) (ob := o2) (om := oM) H (fun b o e => S.F.keep _ _ (sub0 b o e)) ⟨fo, (S.N _ (hsub _ hf1)).1, hf2⟩ (codeRec_news S.N (hsub _ hc1.1) dv1 hc1.2) S.phi.1 (none_sub sub0 hDg) (S.N _ (hsub _ hcb)).1 (S.N _ (hsub _ hcm)).1 e2 eM (none_sub sub0 (S.N _ (hsub _ hcb)).2.2) (none_sub sub0 (S.N _ (hsub _ hcm)).2.2) hcbm hcbD hcmD hN hkr ?_ (by decide) hd' hu' fun h' tk' n t l' hoff tkk D' hN' hm' hl' => ?_
  ·have h16 := dom4_le S.phi.1.nodup hdl
   rw [List.length_map] at h16
   exact Nat.le_trans h16 (by decide)
  ·refine hR' h' tk' n t l' (S.remap hoff tkk D' hg (hshL S.toLed fun a ha => ?_)) tkk hN' (num_of hN' D'.nodup hm') ?_ ?_
   ·refine x12 (List.mem_map.mp (h37 a ha)) fun p hp q93 => ?_; subst q93
    exact List.mem_map_of_mem (hsub p hp)
   ·rcases hl' with rfl | ⟨_, rfl⟩
    ·exact ⟨[], by simp⟩
    ·exact ⟨[k], by simp⟩
   ·rcases hl' with rfl | ⟨_, rfl⟩
    ·exact hdl
    ·intro x hx
     rw [List.map_append, List.mem_append] at hx
     rcases hx with hx | hx
     ·exact hdl x hx
     ·simp at hx; rw [hx]; exact hdk
 have pg : ∀ b o, P b -> s.heap.get? b = some o -> g.get? b = some o := fun b o pb e => Hg _ _ e (by
  simp only [List.map_cons, List.map_nil, List.mem_cons, List.not_mem_nil, or_false, not_or]
  exact ⟨fun q => V.px (q ▸ pb), fun q => V.pd (q ▸ pb), fun q => hPt (q ▸ pb)⟩)
 have Tg := V.top.keep (h' := g) (fun o e => pg _ _ V.pt e) tkg
 have Eg := V.dtop.keep (h' := g) (fun o e => pg _ _ V.pe e) tkg
 clear hcr F4 N4
 have F4 := Sz4.F
 have N4 := Sz4.all
 dsimp only [List.cons_append, List.nil_append] at N4
 refine For_g (hs := fun _ => rfl) g ?_
 o_steps
 (rename Fr _ _ _ _ => F5; rename News _ _ _ _ => N5; try rename Heap => hz5)
 have Sz5 := Sz4.up (Sz4.toHs.same F5 N5 (by w_tidy))
 refine meth_dict (Tg.fr F5) PySem.F.slot_dict_items PySem.F.type_dict_items ?_
 o_steps
 refine call_items (Tg.fr F5) fun h6 vw hk6 hvw => ?_
 have Sz6 := Sz5.up (Sz5.toHs.stay' hk6)
 have Sz6 : RnSt prog w hz0 g s.heap s.heap.objs.size fr7 _ _ _ _ _ _ _ _ := Sz6
 have F6 := fr_stay F5 hk6
 clear F5 N5 Sz5
 o_steps
 have I3 : RnInv M l1 _ (fun _ _ _ => False) (fun _ _ => False) (fun _ => False) := ⟨hN2, hdom1, R3, rfl, rfl, fun _ _ _ h => h.elim, fun _ _ h => h.elim, fun _ h => h.elim⟩
 have hset : ∀ {h : Heap} {m : Str -> Option Value} {fr' : List (Addr × Obj)}, Led g s.heap.objs.size fr' h m -> (∀ q ∈ fr7, q ∈ fr') -> ∀ b, h.get? b = none -> s.heap.get? b = none := fun S hs => hshL S fun a ha => by
  refine x12 (List.mem_map.mp (h37 a ha)) fun p hp q94 => ?_; subst q94
  exact List.mem_map_of_mem (hs p hp)
 refine iter_itemsG (fun i m news => Chu (RnA prog w hz0 g s D f xd x2 fr7 h6 Y M i m) news) Tg hvw rfl F6 (news := fr7 ++ allOf g s.heap.objs.size ((fr7 ++ ([] : List (Addr × Obj))).map (·.1)) h6) (by rw [List.append_nil]; exact Sz6.all) ?_ ?_ ?_
 ·exact (fun _ k9 => k9 h6 _ ([]) l1 Y2 _ P2 _ rfl rfl rfl (by rw [List.append_nil]; exact Sz6) (.inr (fresh_size _)) I3 (fun a ha => by simp at ha))
 ·rintro i k u key T1 mz1 news1 hz7 tkz1 dr own hi hkey hT1 hJ9
  refine Chu.out hJ9 ?_
  clear hJ9
  rintro hX mX own' lm Y2 N P2 T m1 m2 m3 SX hIX IX hTk hav hown hIo F7 N7
  refine stepG_hide fun G hG => ?_
  refine x12 hkey fun kr q95 hkr => ?_; subst q95
  have hmem := List.mem_of_getElem? hi
  obtain rfl := V.val _ _ hmem
  have hkm : k ∈ Y.l.map (·.1) := List.mem_map.mpr ⟨_, hmem, rfl⟩
  have Sz7 := SX.up (SX.toHs.turn F7 N7 hown hIX)
  clear N7 F7 SX hIX
  refine assign_pair rfl ⟨_, hT1, rfl, _, rfl⟩ fun h8 hk8 => ?_
  have Sz8 := Sz7.up (Sz7.toHs.stay' hk8)
  clear Sz7
  have F8 := fr_put (Str.ofString "dfa") (fr_put (Str.ofString "remap") (fr_put (Str.ofString "newdfa") Sz8.F m3) (by exact m2)) (by exact m1)
  have N8 := Sz8.all
  dsimp only [fr7, ledOf] at N8
  dsimp only [List.cons_append, List.nil_append] at N8
  o_steps
  have hnavI : ∀ q ∈ fr7, q.1 ≠ h6.objs.size := fun q hq e => by
   have := hav q (List.mem_append_left _ hq)
   simp [e] at this
  have hIo' : h6.objs.size ∈ own.map (·.1) := x11 (hIo) fun o ho => List.mem_map.mpr ⟨_, ho, rfl⟩
  have hdT : ∃ o, g.get? Y.t = some o := let ⟨_, es, ep, e, _⟩ := Tg; ⟨_, e⟩
  refine x02 (V.inn k hkm) fun Di pi => ?_
  have Dg := Di.keep (h' := g) (fun o e => pg _ _ pi e) tkg
  have hdD : ∃ o, g.get? (Y.dOf k) = some o := let ⟨_, es, ep, e, _⟩ := Dg; ⟨_, e⟩
  (rename Fr _ _ _ _ => Fz9; rename News _ _ _ _ => Nz9; try rename Heap => hz9)
  have Sz9 := Sz8.up (Sz8.toHs.same Fz9 Nz9 (by intro q hq; dsimp only [fr7, ledOf, List.cons_append, List.nil_append] at hq; repeat (first | exact hq | refine List.Mem.tail _ ?_)))
  clear Sz8 Fz9 Nz9
  have Fz9 := Sz9.F
  have Nz9 := Sz9.all
  dsimp only [fr7, ledOf] at Nz9
  dsimp only [List.cons_append, List.nil_append] at Nz9
  refine For_g (hs := fun _ => rfl) g ?_
  o_steps
  refine meth_dict (Dg.fr Fz9) PySem.F.slot_dict_items PySem.F.type_dict_items ?_
  o_steps
  refine call_items (Dg.fr Fz9) fun h10 vw2 hk10 hvw2 => ?_
  have S10 := Sz9.up (Sz9.toHs.stay' hk10)
  have F10 := fr_stay Fz9 hk10
  clear Fz9 Nz9 Sz9
  o_steps
  refine iter_itemsG (fun j m news => Chu (RnB prog w hz0 g s D f xd x2 fr7 h10 Y M own i k kr j m) news) Dg hvw2 rfl F10 (news := (fr7 ++ own) ++ allOf g s.heap.objs.size (((fr7 ++ own) ++ ([] : List (Addr × Obj))).map (·.1)) h10) (by rw [List.append_nil]; exact S10.all) ?_ ?_ ?_
  ·exact (fun _ k9 => k9 h10 _ ([]) lm Y2 N P2 T rfl rfl rfl rfl (by rw [List.append_nil]; exact S10) (.inr (fresh_size _)) IX hTk (fun a ha => by simp at ha))
  ·rintro j lab u key T1 mz2 news2 hz11 tkz2 drz2 own2 hj ⟨tl, rfl⟩ hT2 hJ9
   refine Chu.out hJ9 ?_
   clear hJ9
   rintro hX mX own2' lm Y2 N P2 T m1 m2 m3 m4 SX hIX IX hTk hTj hav2 hown2 hIo2 F11 N11
   refine stepG_hide fun G hG => ?_
   have hlm := List.mem_of_getElem? hj
   refine x12 (V.sval k hkm lab u hlm) fun k' htr' hk' => ?_
   refine x12 hk' fun kr' q96 hkr' => ?_; subst q96
   have hkr'g := hkr'.tk tkg
   have S11 := SX.up (SX.toHs.turn F11 N11 hown2 hIX)
   clear N11 F11 SX hIX
   refine assign_pair rfl ⟨_, hT2, rfl, _, rfl⟩ fun h12 hk12 => ?_
   have S12 := S11.up (S11.toHs.stay' hk12)
   clear S11
   have F12 := fr_put (Str.ofString "dfa") (fr_put (Str.ofString "remap") (fr_put (Str.ofString "newdfa") (fr_put (Str.ofString "src") S12.F m4) (by exact m3)) (by exact m2)) (by exact m1)
   have N12 := S12.allD hg
   dsimp only [fr7, ledOf] at N12
   dsimp only [List.cons_append, List.nil_append] at N12
   o_steps
   (rename Fr _ _ _ _ => F13; rename News _ _ _ _ => N13; try rename Heap => hz13)
   have S13 := S12.up (S12.toHs.same F13 N13 (by intro q hq; dsimp only [fr7, ledOf, List.cons_append, List.nil_append] at hq; repeat (first | exact hq | refine List.Mem.tail _ ?_)))
   clear S12
   refine wpAny_call ?_
   refine rm S13 (fun q hq => List.mem_append_left _ (List.mem_append_left _ hq)) IX.num (hkr.tk fun b o e _ => F13.keep b o e) (htr _ _ _ htr').1 IX.dom ?_ ?_ fun h14 tk14 n3 t3 lm1 S14 _ nm1 num1 pre1 dom1 => ?_
   ·exact (rmL hd1 rfl : dp + 6 < recursionLimit)
   ·exact (rmL hu rfl : un + 23 < cLine)
   have I1 := IX.grow nm1 dom1 pre1 S14.phi.1.nodup
   clear S13 F13 N13 IX
   have F14 := S14.F
   have N14 := S14.allD hg
   dsimp only [fr7, ledOf] at N14
   dsimp only [List.cons_append, List.nil_append] at N14
   try dsimp only
   o_steps
   (rename Fr _ _ _ _ => F15; rename News _ _ _ _ => N15; try rename Heap => hz15)
   have S15 := S14.up (S14.toHs.same F15 N15 (by intro q hq; dsimp only [fr7, ledOf, List.cons_append, List.nil_append] at hq; repeat (first | exact hq | refine List.Mem.tail _ ?_)))
   clear S14
   refine wpAny_call ?_
   refine rm S15 (fun q hq => List.mem_append_left _ (List.mem_append_left _ hq)) I1.num (hkr'g.tk fun b o e _ => F15.keep b o e) (htr _ _ _ htr').2 I1.dom ?_ ?_ fun h16 tk16 n4 t4 lm2 S16 _ nm2 num2 pre2 dom2 => ?_
   ·exact (rmL hd1 rfl : dp + 6 < recursionLimit)
   ·exact (rmL hu rfl : un + 23 < cLine)
   have I2 := I1.grow nm2 dom2 pre2 S16.phi.1.nodup
   have num1 := num1.of_prefix pre2
   clear S15 F15 N15 I1
   have F16 := S16.F
   have N16 := S16.allD hg
   dsimp only [fr7, ledOf] at N16
   dsimp only [List.cons_append, List.nil_append] at N16
   try dsimp only
   o_steps
   (rename Fr _ _ _ _ => F17; rename News _ _ _ _ => N17; try rename Heap => hz17)
   have S17 := S16.up (S16.toHs.same F17 N17 (by intro q hq; dsimp only [fr7, ledOf, List.cons_append, List.nil_append] at hq; repeat (first | exact hq | refine List.Mem.tail _ ?_)))
   clear S16
   refine wpAny_call ?_
   refine d_add_trans (kk := kkInt prog w) (k := n3) (j := n4) H ?_ S17.phi.2 ⟨_, rfl⟩ ⟨_, rfl⟩ (I2.gkOf num1) ?_ ?_ ?_ ?_ ?_ fun h18 tk18 Y3 P3 hoff tkk hP3 d18 => ?_
   ·exact fun b o e => F17.keep _ _ (sub0 b o e)
   ·rw [I2.gl]; exact (V.okl k hkm).2 lab (List.mem_map_of_mem hlm)
   ·rw [I2.gk]; exact fun m hm hmm => Nat.le_trans (ints16 hm hmm) (by decide)
   ·rw [I2.gl]; exact hgl
   ·exact (rmL hd1 rfl : dp + 6 < recursionLimit)
   ·exact (rmL hu rfl : un + 23 < cLine)
   have S18 := S17.dfa hoff tkk hP3 d18 hg (hset S17.toLed fun q hq => List.mem_append_left _ (List.mem_append_left _ hq))
   have I3' := I2.arc num1 num2 htr'
   clear S17 F17 N17
   try dsimp only
   have F18 := S18.F
   have Nz18 := S18.all
   dsimp only [fr7, ledOf] at Nz18
   dsimp only [List.cons_append, List.nil_append] at Nz18
   o_steps
   have hIo2' : h10.objs.size ∈ own2.map (·.1) := x11 (hIo2) fun o ho => List.mem_map.mpr ⟨_, ho, rfl⟩
   exact hG h18 _ _ _ _ F18 S18.toLed.endN (S18.toLed.endA2 hIo2' (fun q hq e => by have := hav2 q (List.mem_append_left _ hq); simp [e] at this) hdD) (fun _ k9 => k9 h18 _ own2 lm2 Y3 _ P3 _ rfl rfl rfl rfl S18 (.inl hIo2') I3' (fun a ha l b e => .inl (hTk a ha l b e)) (fun l hl b e => by
     rw [List.take_add_one, hj, List.map_append] at hl
     rcases List.mem_append.mp hl with hl | hl
     ·exact .inl (hTj l hl b e)
     ·simp at hl; subst hl
      rw [htr'] at e; cases e
      exact .inr ⟨rfl, rfl, rfl⟩))
  ·rintro mz2 news2 hz11 tkz2 drz2 hJ9
   refine Chu.out hJ9 ?_
   clear hJ9
   rintro hX mX own2' lm Y2 N P2 T m1 m2 m3 m4 SX hIX IX hTk hTj F11 N11
   have S11 := SX.up (SX.toHs.leave F11 N11)
   clear SX N11 F11
   have F11 := fr_put (Str.ofString "dfa") (fr_put (Str.ofString "remap") (fr_put (Str.ofString "newdfa") S11.F m3) (by exact m2)) (by exact m1)
   have N11 := S11.all
   try dsimp only
   o_steps
   exact hG hz11 _ _ _ _ F11 S11.toLed.endN (S11.toLed.endA2 hIo' hnavI hdT) (fun _ k9 => k9 hz11 _ own lm Y2 N P2 T rfl rfl rfl S11 (.inl hIo') IX (fun a ha l b e => by
    rw [List.take_add_one, hi, List.map_append] at ha
    rcases List.mem_append.mp ha with ha | ha
    ·exact hTk a ha l b e
    ·simp at ha; subst ha
     refine hTj l ?_ b e
     rw [List.take_length]
     exact (V.has _ _ _ e).2))
 ·rintro mz1 news1 hz7 tkz1 dr1 hJ9
  refine Chu.out hJ9 ?_
  clear hJ9
  rintro hX mX own' lm Y2 N P2 T m1 m2 m3 SX hIX IX hTk F7 N7
  have Sz7 := SX.up (SX.toHs.leave F7 N7)
  clear SX hIX N7 F7
  have F7 := fr_put (Str.ofString "dfa") (fr_put (Str.ofString "remap") (fr_put (Str.ofString "newdfa") Sz7.F m3) (by exact m2)) (by exact m1)
  have N7 := Sz7.all
  dsimp only [fr7, ledOf] at N7
  dsimp only [List.cons_append, List.nil_append] at N7
  have hTall : ∀ a l b, M.tr a l = some b -> T a l b := fun a l b e => hTk a (by rw [List.take_length]; exact (V.has _ _ _ e).1) l b e
  clear hTk
  try dsimp only
  o_steps
  refine For_g (hs := fun _ => rfl) g ?_
  o_steps
  refine x12 V.S fun lf Sf hf => ?_
  have Sg := Sf.keep (h' := g) (fun o e => pg _ _ V.pf e) tkg
  (rename Fr _ _ _ _ => F8; rename News _ _ _ _ => N8; try rename Heap => hz8)
  have Sz8 := Sz7.up (Sz7.toHs.same F8 N8 (by intro q hq; dsimp only [fr7, ledOf, List.cons_append, List.nil_append] at hq; repeat (first | exact hq | refine List.Mem.tail _ ?_)))
  clear Sz7
  refine sorted_tups_at (dom := dom4) (hdom := hdom4) (lim := 18) (l := lf) rfl (Sg.fr F8) (fun k hk => (hfi k ((hf k).mp hk)).2) fun h9 tk9 dr9 r9 out c9 hall hcov hk9 hr9 ho9 => ?_
  have Sz9 := Sz8.up (Sz8.toHs.snoc hk9 hr9 ho9 (nt_cls (by show (Value.type "list") ≠ _; decide)))
  have r9A := Sz8.toLed.fresh_aside hr9
  have g9 := (fresh_off F8 hr9).2
  have Fz9 := fr_stay F8 hk9
  clear F8 N8 Sz8
  o_steps
  refine iter_listG (ht := fun _ _ => rfl) (fun i m news => Chu (RnC prog w hz0 g s D f xd x2 fr7 h9 hz7 r9 M T out lf i m) news) ho9 (Ne.symm r9A.1) ?_ rfl Fz9 (news := fr7 ++ allOf g s.heap.objs.size ((fr7 ++ [(r9, listO out c9)]).map (·.1)) h9) ?_ ?_ ?_ ?_ g9
  ·intro p hp
   rcases List.mem_append.mp hp with hp | hp
   ·exact fun q => r9A.2 (q ▸ List.mem_map_of_mem hp)
   ·exact fun q => (mem_allOf.mp hp).2.2.2 (by simp [q])
  ·exact fun p hp => Sz9.all p ((List.mem_append.mp hp).elim (fun h => List.mem_append_left _ (List.mem_append_left _ h)) (List.mem_append_right _))
  ·rintro h' hk' - F' N'
   exact (fun _ k9 => k9 h9 _ ([(r9, listO out c9)]) lm Y2 N P2 _ rfl rfl rfl Sz9 (by simp [fresh_size]) (fun b o e _ => hk9 b o e) (⟨IX.num, IX.dom, IX.ren, IX.gk, IX.gl, IX.tr, IX.df, IX.fin⟩) (fun v hv => by simp at hv))
  ·rintro i v mz2 news2 hz11 tkz2 drz2 own hv hJ9
   refine Chu.out hJ9 ?_
   clear hJ9
   rintro hX mX own' lm Y2 N P2 Fn m1 m2 m3 SX hIX tkX IX hFk hav hown hIo hro F11 N11
   refine stepG_hide fun G hG => ?_
   have hvm : v ∈ out.toList := List.mem_of_getElem? (by rw [Array.getElem?_toList]; exact hv)
   refine x23 (hall v hvm) fun b k q97 hkl hkb => ?_; subst q97
   have tkz11 := tkX.trans (SX.toHs.turnK F11 N11)
   have S11 := SX.up (SX.toHs.turnL F11 N11 hown hIX)
   clear SX hIX N11 F11
   have F11 := fr_put (Str.ofString "dfa") (fr_put (Str.ofString "remap") (fr_put (Str.ofString "newdfa") S11.F m3) (by exact m2)) (by exact m1)
   have N11 := S11.allD hg
   dsimp only [fr7, ledOf] at N11
   dsimp only [List.cons_append, List.nil_append] at N11
   refine wpAny_assign_Name ?_
   o_steps
   (rename Fr _ _ _ _ => F13; rename News _ _ _ _ => N13; try rename Heap => hz13)
   have tk13 := tkz11.trans (S11.toHs.tkS F13 N13 (by intro q hq; dsimp only [fr7, ledOf, List.cons_append, List.nil_append] at hq; repeat (first | exact hq | refine List.Mem.tail _ ?_)))
   have S13 := S11.up (S11.toHs.same F13 N13 (by intro q hq; dsimp only [fr7, ledOf, List.cons_append, List.nil_append] at hq; repeat (first | exact hq | refine List.Mem.tail _ ?_)))
   clear S11
   have hMk : M.fin k := (hf k).mp hkl
   refine wpAny_call ?_
   refine rm S13 (fun q hq => List.mem_append_left _ hq) IX.num (hkb.tk tk13) (hfi k hMk).1 IX.dom ?_ ?_ fun h14 tk14 n3 t3 lm1 S14 tkz14 nm1 num1 pre1 dom1 => ?_
   ·exact (rmL hd1 rfl : dp + 6 < recursionLimit)
   ·exact (rmL hu rfl : un + 23 < cLine)
   have tkz14 := tk13.trans tkz14
   have I1 := IX.grow nm1 dom1 pre1 S14.phi.1.nodup
   clear S13 F13 N13 IX
   have F14 := S14.F
   have N14 := S14.allD hg
   dsimp only [fr7, ledOf] at N14
   dsimp only [List.cons_append, List.nil_append] at N14
   try dsimp only
   o_steps
   (rename Fr _ _ _ _ => F17; rename News _ _ _ _ => N17; try rename Heap => hz17)
   have tkz17 := tkz14.trans (S14.toHs.tkS F17 N17 (by intro q hq; dsimp only [fr7, ledOf, List.cons_append, List.nil_append] at hq; repeat (first | exact hq | refine List.Mem.tail _ ?_)))
   have S17 := S14.up (S14.toHs.same F17 N17 (by intro q hq; dsimp only [fr7, ledOf, List.cons_append, List.nil_append] at hq; repeat (first | exact hq | refine List.Mem.tail _ ?_)))
   clear S14
   refine wpAny_call ?_
   refine d_add_final (kk := kkInt prog w) (k := n3) H ?_ S17.phi.2 ⟨_, rfl⟩ trivial ?_ ?_ ?_ fun h18 tk18 hoff tkk d18 => ?_
   ·exact fun b o e => F17.keep _ _ (sub0 b o e)
   ·refine fun m hm hmm => Nat.le_trans (ints16 hm fun a ha => ?_) (by decide)
    have hb16 := I1.gk
    rcases hmm a ha with e | e
    ·rw [e]
     have := I1.gkOf num1
     rw [hb16] at this; exact this
    ·refine x12 (I1.ren.fin2 a e) fun k2 q1 _ => ?_
     have := I1.gkOf q1
     rw [hb16] at this; exact this
   ·exact (rmL hd1 rfl : dp + 6 < recursionLimit)
   ·exact (rmL hu rfl : un + 23 < cLine)
   have S18 := S17.dfa (fun b o nb e => hoff b o (by simp; rintro rfl; exact nb S17.phi.2.pf) e) tkk (fun b q => .inl q) d18 hg (hset S17.toLed fun q hq => List.mem_append_left _ hq)
   have I3' := I1.final num1 hMk
   have tkz18 := tkz17.trans tkk
   clear S17 F17 N17
   try dsimp only
   have F18 := S18.F
   have Nz18 := S18.all
   dsimp only [fr7, ledOf] at Nz18
   dsimp only [List.cons_append, List.nil_append] at Nz18
   o_steps
   have hIo' : ∀ a ∈ [h9.objs.size, r9], a ∈ own.map (·.1) := by
    intro a ha
    simp only [List.mem_cons, List.not_mem_nil, or_false] at ha
    rcases ha with rfl | rfl
    ·refine x11 hIo fun o ho => ?_; exact List.mem_map.mpr ⟨_, ho, rfl⟩
    ·refine x11 hro fun o ho => ?_; exact List.mem_map.mpr ⟨_, ho, rfl⟩
   exact hG h18 _ _ _ _ F18 S18.toLed.endN (Led.endA hIo' (fun q hq => hav q (List.mem_append_left _ hq))) (fun _ k9 => k9 h18 _ own lm1 Y2 _ P2 _ rfl rfl rfl S18 (fun a ha => .inl (hIo' a ha)) tkz18 I3' (fun v hv b' k' e hk' hb' => by
    rw [List.take_add_one, Array.getElem?_toList, ‹out[i]? = some (Value.ref b)›] at hv
    rcases List.mem_append.mp hv with hv | hv
    ·exact .inl (hFk v hv b' k' e hk' hb')
    ·simp at hv; subst hv; cases e
     exact .inr (hb'.inj hkb)))
  ·rintro mz2 news2 hz11 tkz2 drz2 - hJ9
   refine Chu.out hJ9 ?_
   clear hJ9
   rintro hX mX own' lm Y2 N P2 Fn m1 m2 m3 SX hIX tkX IX hFk F11 N11
   have S11 := SX.up (SX.toHs.leave F11 N11)
   clear SX hIX N11 F11
   have F11 := fr_put (Str.ofString "dfa") (fr_put (Str.ofString "remap") (fr_put (Str.ofString "newdfa") S11.F m3) (by exact m2)) (by exact m1)
   have N11 := S11.all
   dsimp only [fr7, ledOf] at N11
   dsimp only [List.cons_append, List.nil_append] at N11
   have hFall : ∀ a, M.fin a -> Fn a := fun a ha => by
    obtain ⟨v, hv, b, e, hb⟩ := hcov a ((hf a).mpr ha)
    exact hFk v (by rw [← Array.length_toList, List.take_length]; exact hv) b a e ((hf a).mpr ha) hb
   clear hFk
   try dsimp only
   o_steps
   refine For_g (hs := fun _ => rfl) g ?_
   o_steps
   (rename Fr _ _ _ _ => F12; rename News _ _ _ _ => N12; try rename Heap => hz12)
   have S12 := S11.up (S11.toHs.same F12 N12 (by intro q hq; dsimp only [fr7, ledOf, List.cons_append, List.nil_append] at hq; repeat (first | exact hq | refine List.Mem.tail _ ?_)))
   refine meth_dict (Eg.fr F12) PySem.F.slot_dict_items PySem.F.type_dict_items ?_
   o_steps
   refine call_items (Eg.fr F12) fun h13 vw3 hk13 hvw3 => ?_
   have S13 := S12.up (S12.toHs.stay' hk13)
   have F13 := fr_stay F12 hk13
   clear F12 N12 S12 S11
   o_steps
   have hdE : ∃ o, g.get? Y.e = some o := let ⟨_, es, ep, e, _⟩ := Eg; ⟨_, e⟩
   refine iter_itemsG (fun i m news => Chu (RnD prog w hz0 g s D f x2 fr7 h13 Y M T Fn i m) news) Eg hvw3 rfl F13 (news := fr7 ++ allOf g s.heap.objs.size ((fr7 ++ ([] : List (Addr × Obj))).map (·.1)) h13) (by rw [List.append_nil]; exact S13.all) ?_ ?_ ?_
   ·exact (fun _ k9 => k9 h13 _ ([]) lm Y2 N P2 _ rfl rfl (by rw [List.append_nil]; exact S13) (.inr (fresh_size _)) IX (fun a ha => by simp at ha))
   ·rintro i k u key T1 mz1 news1 hz14 tkz1 dr own hi hkey hT1 hJ9
    refine Chu.out hJ9 ?_
    clear hJ9
    rintro hX mX own' lm Y2 N P2 Df m2 m3 SX hIX IX hDk hav hown hIo F14 N14
    refine stepG_hide fun G hG => ?_
    refine x12 hkey fun kr q98 hkr => ?_; subst q98
    have hmem := List.mem_of_getElem? hi
    refine x12 (V.dval _ _ hmem) fun k' hdf' hk' => ?_
    refine x12 hk' fun kr' q99 hkr' => ?_; subst q99
    have hkr'g := hkr'.tk tkg
    have S14 := SX.up (SX.toHs.turn F14 N14 hown hIX)
    clear SX hIX N14 F14
    refine assign_pair rfl ⟨_, hT1, rfl, _, rfl⟩ fun h15 hk15 => ?_
    have S15 := S14.up (S14.toHs.stay' hk15)
    clear S14
    have F15 := fr_put (Str.ofString "remap") (fr_put (Str.ofString "newdfa") S15.F m3) (by exact m2)
    have N15 := S15.allD hg
    dsimp only [fr7, ledOf] at N15
    dsimp only [List.cons_append, List.nil_append] at N15
    o_steps
    (rename Fr _ _ _ _ => F16; rename News _ _ _ _ => N16; try rename Heap => hz16)
    have S16 := S15.up (S15.toHs.same F16 N16 (by intro q hq; dsimp only [fr7, ledOf, List.cons_append, List.nil_append] at hq; repeat (first | exact hq | refine List.Mem.tail _ ?_)))
    clear S15
    refine wpAny_call ?_
    refine rm S16 (fun q hq => List.mem_append_left _ hq) IX.num (hkr.tk fun b o e _ => F16.keep b o e) (hdf _ _ hdf').1 IX.dom ?_ ?_ fun h17 tk17 n3 t3 lm1 S17 _ nm1 num1 pre1 dom1 => ?_
    ·exact (rmL hd1 rfl : dp + 6 < recursionLimit)
    ·exact (rmL hu rfl : un + 23 < cLine)
    have I1 := IX.grow nm1 dom1 pre1 S17.phi.1.nodup
    clear S16 F16 N16 IX
    have F17 := S17.F
    have N17 := S17.allD hg
    dsimp only [fr7, ledOf] at N17
    dsimp only [List.cons_append, List.nil_append] at N17
    try dsimp only
    o_steps
    (rename Fr _ _ _ _ => F18; rename News _ _ _ _ => Nz18; try rename Heap => hz18)
    have S18 := S17.up (S17.toHs.same F18 Nz18 (by intro q hq; dsimp only [fr7, ledOf, List.cons_append, List.nil_append] at hq; repeat (first | exact hq | refine List.Mem.tail _ ?_)))
    clear S17
    refine wpAny_call ?_
    refine rm S18 (fun q hq => List.mem_append_left _ hq) I1.num (hkr'g.tk fun b o e _ => F18.keep b o e) (hdf _ _ hdf').2 I1.dom ?_ ?_ fun h19 tk19 n4 t4 lm2 S19 _ nm2 num2 pre2 dom2 => ?_
    ·exact (rmL hd1 rfl : dp + 6 < recursionLimit)
    ·exact (rmL hu rfl : un + 23 < cLine)
    have I2 := I1.grow nm2 dom2 pre2 S19.phi.1.nodup
    have num1 := num1.of_prefix pre2
    clear S18 F18 Nz18 I1
    have F19 := S19.F
    have N19 := S19.allD hg
    dsimp only [fr7, ledOf] at N19
    dsimp only [List.cons_append, List.nil_append] at N19
    try dsimp only
    o_steps
    (rename Fr _ _ _ _ => F20; rename News _ _ _ _ => N20; try rename Heap => h20)
    have S20 := S19.up (S19.toHs.same F20 N20 (by intro q hq; dsimp only [fr7, ledOf, List.cons_append, List.nil_append] at hq; repeat (first | exact hq | refine List.Mem.tail _ ?_)))
    clear S19
    refine wpAny_call ?_
    refine d_set_default (kk := kkInt prog w) (k := n3) (j := n4) H ?_ S20.phi.2 ⟨_, rfl⟩ ⟨_, rfl⟩ (I2.gkOf num1) ?_ ?_ ?_ fun h21 tk21 Y3 hoff tkk d21 => ?_
    ·exact fun b o e => F20.keep _ _ (sub0 b o e)
    ·rw [I2.gk]; exact fun m hm hmm => Nat.le_trans (ints16 hm hmm) (by decide)
    ·exact (rmL hd1 rfl : dp + 6 < recursionLimit)
    ·exact (rmL hu rfl : un + 23 < cLine)
    have S21 := S20.dfa (fun b o nb e => hoff b o (by simp; rintro rfl; exact nb S20.phi.2.pe) e) tkk (fun b q => .inl q) d21 hg (hset S20.toLed fun q hq => List.mem_append_left _ hq)
    have I3' := I2.dflt num1 num2 hdf'
    clear S20 F20 N20
    try dsimp only
    have F21 := S21.F
    have N21 := S21.all
    dsimp only [fr7, ledOf] at N21
    dsimp only [List.cons_append, List.nil_append] at N21
    o_steps
    have hIo' : h13.objs.size ∈ own.map (·.1) := x11 (hIo) fun o ho => List.mem_map.mpr ⟨_, ho, rfl⟩
    exact hG h21 _ _ _ _ F21 S21.toLed.endN (S21.toLed.endA2 hIo' (fun q hq e => by have := hav q (List.mem_append_left _ hq); simp [e] at this) hdE) (fun _ k9 => k9 h21 _ own lm2 Y3 _ P2 _ rfl rfl S21 (.inl hIo') I3' (fun a ha b e => by
      rw [List.take_add_one, hi, List.map_append] at ha
      rcases List.mem_append.mp ha with ha | ha
      ·exact .inl (hDk a ha b e)
      ·simp at ha; subst ha
       rw [hdf'] at e; cases e
       exact .inr ⟨rfl, rfl⟩))
   ·rintro mz2 news2 hz14 tkz2 drz2 hJ9
    refine Chu.out hJ9 ?_
    clear hJ9
    rintro hX mX own' lm Y2 N P2 Df m2 m3 SX hIX IX hDk F14 N14
    have S14 := SX.up (SX.toHs.leave F14 N14)
    clear SX hIX N14 F14
    have F14 := fr_put (Str.ofString "newdfa") S14.F m3
    have N14 := S14.all
    dsimp only [fr7, ledOf] at N14
    dsimp only [List.cons_append, List.nil_append] at N14
    have hDall : ∀ a b, M.df a = some b -> Df a b := fun a b e => hDk a (by rw [List.take_length]; exact V.dhas _ _ e) b e
    try dsimp only
    o_steps
    refine hR _ _ _ x2 Y2 N P2 (lm.map (·.1)) (fun b o hb e => ?_) ⟨_, N14.get (a := 332) (by k_mem)⟩ (fun b hb => (S14.as b (.inr hb)).2) S14.phi.2 IX.gk (dom4_le IX.ren.nd IX.dom)
     ⟨IX.ren.nd, IX.ren.k0, fun k lab k' e => IX.ren.tr1 _ _ _ (hTall _ _ _ e), fun n lab n' e => let ⟨k, k', a, b, c⟩ := IX.ren.tr2 _ _ _ e; ⟨k, k', a, b, IX.tr _ _ _ c⟩, fun k k' e => IX.ren.df1 _ _ (hDall _ _ e), fun n n' e => let ⟨k, k', a, b, c⟩ := IX.ren.df2 _ _ e; ⟨k, k', a, b, IX.df _ _ c⟩,
      fun k e => IX.ren.fin1 _ (hFall _ e), fun n e => x12 (IX.ren.fin2 _ e) fun k a c => ⟨k, a, IX.fin _ c⟩⟩
    have hb : b ≠ 332 := by simpa using hb
    by_cases q1 : b = xd
    ·subst q1; rw [V.ox] at e; cases e
     exact N14.get (by k_mem)
    ·by_cases q2 : b = Y.dx
     ·subst q2; rw [V.od] at e; cases e
      have : (Y.dx, Y.obj w) ∈ fr7 := by unfold DLay.obj; rw [hbv]; k_sizes
      exact (S14.N _ this).1
     ·exact S14.F.keep _ _ (Hg _ _ e (by simp [q1, q2, hb]))
end
-- PlainP
section
open PySem PySem.W PyProof.Rows PySem.Calls
inductive Pth (Ar : Int -> Str -> Int -> Prop) : Int -> List Nat -> Int -> Prop
 | nil (a : Int) : Pth Ar a [] a
 | eps {a b c : Int} {cs : List Nat} : Ar a EPS b -> Pth Ar b cs c -> Pth Ar a cs c
 | sign {a b c : Int} {s : Nat} {cs : List Nat} : (Ar a ⟨#[s]⟩ b ∨ Ar a ANYS b) -> Pth Ar b cs c -> Pth Ar a (s :: cs) c
section
variable {Ar : Int -> Str -> Int -> Prop} {a b c i : Int} {cs ds : List Nat}
theorem star_pre {E : Int -> Str -> Int -> Prop} {e : Str} (h : E a e b) (p : Star E e b c) : Star E e a c := by
 induction p with
 | refl => exact .step (.refl _) h
 | step _ h' ih => exact .step ih h'
theorem Pth.star (h : Star Ar EPS a b) : Pth Ar b cs c -> Pth Ar a cs c := by
 induction h with
 | refl => exact id
 | step _ h ih => exact fun p => ih (.eps h p)
theorem Pth.trans (h : Pth Ar a cs b) : Pth Ar b ds c -> Pth Ar a (cs ++ ds) c := by
 induction h with
 | nil => exact id
 | eps e _ ih => exact fun p => .eps e (ih p)
 | sign e _ ih => exact fun p => .sign e (ih p)
theorem Pth.cons_inv {l : List Nat} (h : Pth Ar a l c) : ∀ s cs, l = s :: cs -> ∃ a0 b, Star Ar EPS a a0 /\ (Ar a0 ⟨#[s]⟩ b ∨ Ar a0 ANYS b) /\ Pth Ar b cs c := by
 induction h with
 | nil => intro s cs e; cases e
 | @eps a b c l e _ ih =>
  intro s cs q
  refine x23 (ih s cs q) fun a0 b' h1 h2 h3 => ?_
  exact ⟨a0, b', star_pre e h1, h2, h3⟩
 | sign e p _ =>
  intro s cs q
  cases q
  exact ⟨_, _, .refl _, e, p⟩
theorem Pth.nil_inv {l : List Nat} (h : Pth Ar a l c) {S : Int -> Prop} (hS : ∀ a b, S a -> Ar a EPS b -> S b) : l = [] -> S a -> S c := by
 induction h with
 | nil => exact fun _ h => h
 | eps e _ ih => exact fun q h => ih q (hS _ _ h e)
 | sign => exact fun q => nomatch q
theorem step_closed {S : Int -> Prop} {s : Str} : ∀ a b, stepP Ar s S a -> Ar a EPS b -> stepP Ar s S b := fun _ _ q819 e => x12 q819 fun c h st => ⟨c, h, .step st e⟩
theorem star_closed {S : Int -> Prop} (hS : ∀ a b, S a -> Ar a EPS b -> S b) (h : Star Ar EPS a b) : S a -> S b := by
 induction h with
 | refl => exact id
 | step _ e ih => exact fun s => hS _ _ (ih s) e
theorem fold_pth : ∀ (cs : List Nat) (S : Int -> Prop) (b : Int), (∀ a b, S a -> Ar a EPS b -> S b) -> (cs.foldl (fun S c => stepP Ar ⟨#[c]⟩ S) S b ↔ ∃ a, S a /\ Pth Ar a cs b)
 | [], S, b, hS => ⟨fun h => ⟨b, h, .nil b⟩, fun q820 => x12 q820 fun _ h p => p.nil_inv hS rfl h⟩
 | c :: cs, S, b, hS => by
  rw [List.foldl_cons, fold_pth cs _ b step_closed]
  constructor
  ·rintro q810; refine x12 q810 fun a q811 p => ?_; refine x12 q811 fun c' q812 st => ?_; refine x12 q812 fun a0 h0 e => ?_
   exact ⟨a0, h0, .sign e (.star st p)⟩
  ·rintro q813; refine x12 q813 fun a h p => ?_
   refine x23 (p.cons_inv c cs rfl) fun a0 b' st e p' => ?_
   exact ⟨b', ⟨b', ⟨a0, star_closed hS st h, e⟩, .refl _⟩, p'⟩
theorem runP_pth : runP Ar i cs b ↔ Pth Ar i cs b := by
 unfold runP
 rw [fold_pth cs _ b fun a b h e => ⟨i, by simp, by
  refine x12 h fun j hj st => ?_
  simp at hj
  subst hj
  exact .step st e⟩]
 constructor
 ·rintro q814; refine x12 q814 fun a q815 p => ?_; refine x12 q815 fun j hj st => ?_
  simp at hj
  subst hj
  exact .star st p
 ·exact fun p => ⟨i, ⟨i, by simp, .refl _⟩, p⟩
noncomputable abbrev Back (Ar : Int -> Str -> Int -> Prop) : Int -> Str -> Int -> Prop := fun a lab b => Ar b lab a
theorem Pth.back (h : Pth Ar a cs b) : Pth (Back Ar) b cs.reverse a := by
 induction h with
 | nil => exact .nil _
 | eps e _ ih =>
  have := ih.trans (Pth.eps (Ar := Back Ar) e (.nil _))
  simpa using this
 | sign e _ ih =>
  rw [List.reverse_cons]
  exact ih.trans (Pth.sign (Ar := Back Ar) e (.nil _))
noncomputable abbrev Turned (Ar : Int -> Str -> Int -> Prop) (Fin : Int -> Prop) (k : Int) : Int -> Str -> Int -> Prop := fun a lab b => Ar b lab a ∨ (a = k /\ lab = EPS /\ Fin b)
theorem turned_in {Fin : Int -> Prop} {k : Int} (h : Pth (Turned Ar Fin k) a cs b) (hA : ∀ a lab b, Ar a lab b -> a ≠ k /\ b ≠ k) (ha : a ≠ k) : Pth (Back Ar) a cs b := by
 induction h with
 | nil => exact .nil _
 | eps e _ ih =>
  rcases e with e | ⟨e, _⟩
  ·exact .eps e (ih (hA _ _ _ e).1)
  ·exact absurd e ha
 | sign e _ ih =>
  have e' := e.imp (fun e => e.resolve_right fun q => ha q.1) (fun e => e.resolve_right fun q => ha q.1)
  exact .sign e' (ih (e'.elim (fun e => (hA _ _ _ e).1) fun e => (hA _ _ _ e).1))
theorem turned_of {Fin : Int -> Prop} {k : Int} (h : Pth (Back Ar) a cs b) : Pth (Turned Ar Fin k) a cs b := by
 induction h with
 | nil => exact .nil _
 | eps e _ ih => exact .eps (.inl e) ih
 | sign e _ ih => exact .sign (e.imp .inl .inl) ih
theorem turned_run {Fin : Int -> Prop} {k : Int} (hA : ∀ a lab b, Ar a lab b -> a ≠ k /\ b ≠ k) (hF : ∀ a, Fin a -> a ≠ k) (hk : i ≠ k) : (∃ a, runP (Turned Ar Fin k) k cs.reverse a /\ a = i) ↔ ∃ a, runP Ar i cs a /\ Fin a := by
 have hE : EPS ≠ ANYS := by decide +kernel
 have hs : ∀ s, (⟨#[s]⟩ : Str) ≠ EPS := fun s e => by
  have : (⟨#[s]⟩ : Str).cps.size = EPS.cps.size := by rw [e]
  have h2 : EPS.cps.size = 9 := by decide +kernel
  rw [h2] at this
  simp at this
 constructor
 ·rintro q816; refine x12 q816 fun a h q817 => ?_; subst q817
  rw [runP_pth] at h
  suffices ∀ {x : Int} {l : List Nat}, Pth (Turned Ar Fin k) x l a -> x = k -> ∃ b, Pth Ar a l.reverse b /\ Fin b by
   refine x12 (this h rfl) fun b hb hf => ?_
   rw [List.reverse_reverse] at hb
   exact ⟨b, runP_pth.mpr hb, hf⟩
  intro x l p
  cases p with
  | nil => exact fun e => absurd e hk
  | @eps _ b' _ _ e p =>
   intro q
   rcases e with e | ⟨_, _, hf⟩
   ·exact absurd q (hA _ _ _ e).2
   ·refine ⟨b', ?_, hf⟩
    have := (turned_in p hA (hF _ hf)).back
    exact this
  | sign e p =>
   intro q
   rcases e with (e | ⟨_, e, _⟩) | (e | ⟨_, e, _⟩)
   ·exact absurd q (hA _ _ _ e).2
   ·exact absurd e (hs _)
   ·exact absurd q (hA _ _ _ e).2
   ·exact absurd e.symm hE
 ·rintro q818; refine x12 q818 fun a h hf => ?_
  rw [runP_pth] at h
  exact ⟨i, runP_pth.mpr (.eps (.inr ⟨rfl, rfl, hf⟩) (turned_of h.back)), rfl⟩
noncomputable def labOf (k : Int) : Str := if k = 4 then EPS else if k = 3 then ANYS else ⟨#[97 + k.toNat]⟩
noncomputable def ArR (rows : List (List Int)) : Int -> Str -> Int -> Prop := fun a lab b => ∃ k : Int, [a, k, b] ∈ rows /\ lab = labOf k
theorem lab_eps {k : Int} : EPS = labOf k ↔ k = 4 := by
 unfold labOf
 by_cases h4 : k = 4
 ·simp [h4]
 rw [if_neg h4]
 by_cases h3 : k = 3
 ·rw [if_pos h3]
  exact ⟨fun e => absurd e (by decide +kernel), fun e => absurd e h4⟩
 ·rw [if_neg h3]
  refine ⟨fun e => ?_, fun e => absurd e h4⟩
  have : EPS.cps.size = (⟨#[97 + k.toNat]⟩ : Str).cps.size := by rw [e]
  have h2 : EPS.cps.size = 9 := by decide +kernel
  rw [h2] at this
  simp at this
theorem lab_any {k : Int} : ANYS = labOf k ↔ k = 3 := by
 unfold labOf
 by_cases h4 : k = 4
 ·rw [if_pos h4]
  exact ⟨fun e => absurd e (by decide +kernel), fun e => by lia⟩
 rw [if_neg h4]
 by_cases h3 : k = 3
 ·simp [h3]
 ·rw [if_neg h3]
  refine ⟨fun e => ?_, fun e => absurd e h3⟩
  have : ANYS.cps.size = (⟨#[97 + k.toNat]⟩ : Str).cps.size := by rw [e]
  have h2 : ANYS.cps.size = 5 := by decide +kernel
  rw [h2] at this
  simp at this
theorem lab_sign {k : Int} {c : Nat} : (⟨#[c]⟩ : Str) = labOf k ↔ k ≠ 4 /\ k ≠ 3 /\ c = 97 + k.toNat := by
 unfold labOf
 by_cases h4 : k = 4
 ·rw [if_pos h4]
  refine ⟨fun e => ?_, fun e => absurd h4 e.1⟩
  have : (⟨#[c]⟩ : Str).cps.size = EPS.cps.size := by rw [e]
  have h2 : EPS.cps.size = 9 := by decide +kernel
  rw [h2] at this
  simp at this
 rw [if_neg h4]
 by_cases h3 : k = 3
 ·rw [if_pos h3]
  refine ⟨fun e => ?_, fun e => absurd h3 e.2.1⟩
  have : (⟨#[c]⟩ : Str).cps.size = ANYS.cps.size := by rw [e]
  have h2 : ANYS.cps.size = 5 := by decide +kernel
  rw [h2] at this
  simp at this
 ·rw [if_neg h3]
  simp [h3, h4]
theorem runP_eps {Ar : Int -> Str -> Int -> Prop} (h : runP Ar i cs a) (e : Ar a EPS b) : runP Ar i cs b := by
 rw [runP_pth] at h ⊢
 have := h.trans (.eps e (.nil _))
 simpa using this
section
variable {rows : List (List Int)} {wd : List Nat}
theorem met_run {p : Int} (h : Met rows wd a p) : 0 ≤ p /\ p ≤ wd.length /\ runP (ArR rows) 0 (wd.take p.toNat) a := by
 induction h with
 | init => exact ⟨by lia, by lia, runP_pth.mpr (.nil _)⟩
 | @step a p b q _ hs ih =>
  refine x03 ih fun h0 h1 hr => ?_
  refine x12 hs fun k hk hs => ?_
  rcases hs with ⟨rfl, rfl⟩ | ⟨h4, hl, rfl, h3⟩
  ·exact ⟨h0, h1, runP_eps hr ⟨4, hk, rfl⟩⟩
  ·refine ⟨by lia, by lia, ?_⟩
   have hlt : p.toNat < wd.length := (Int.toNat_lt ih.1).mpr (by assumption)
   have e : (p + 1).toNat = p.toNat + 1 := Int.toNat_add ih.1 (by decide)
   rw [e, runP_succ (List.getElem?_eq_getElem hlt)]
   refine ⟨b, ⟨a, hr, ?_⟩, .refl _⟩
   rcases h3 with rfl | h3
   ·exact .inr ⟨3, hk, lab_any.mpr rfl⟩
   ·by_cases k3 : k = 3
    ·exact .inr ⟨k, hk, lab_any.mpr k3⟩
    ·rw [List.getElem?_eq_getElem hlt] at h3
     exact .inl ⟨k, hk, lab_sign.mpr ⟨h4, k3, Option.some.inj h3⟩⟩
theorem met_star {p : Int} (h : Star (ArR rows) EPS a b) : Met rows wd a p -> Met rows wd b p := by
 induction h with
 | refl => exact id
 | step _ e ih =>
  refine x12 e fun k hk e => ?_
  exact fun m => .step (ih m) ⟨k, hk, .inl ⟨lab_eps.mp e, rfl⟩⟩
theorem run_met : ∀ (n : Nat) (b : Int), n ≤ wd.length -> runP (ArR rows) 0 (wd.take n) b -> Met rows wd b n
 | 0, b, _, h => by
  refine x12 h fun j hj st => ?_
  simp at hj
  subst hj
  exact met_star st .init
 | n + 1, b, hn, h => by
  rw [runP_succ (List.getElem?_eq_getElem (show n < wd.length by lia))] at h
  obtain ⟨c', ⟨a0, h0, e⟩, st⟩ := h
  refine met_star st (.step (run_met n a0 (by lia) h0) ?_)
  rcases e with ⟨k, hk, e⟩ | ⟨k, hk, e⟩
  ·refine x03 (lab_sign.mp e) fun k4 k3 ec => ?_
   exact ⟨k, hk, .inr ⟨k4, by lia, by lia, .inr (by
    rw [show ((n : Int)).toNat = n by lia, List.getElem?_eq_getElem (show n < wd.length by lia), ec])⟩⟩
  ·have k3 := lab_any.mp e
   exact ⟨k, hk, .inr ⟨by lia, by lia, by lia, .inl k3⟩⟩
theorem met_iff {n : Nat} (hn : n ≤ wd.length) : Met rows wd b n ↔ runP (ArR rows) 0 (wd.take n) b := ⟨fun h => by
 have := (met_run h).2.2
 simpa using this, run_met n b hn⟩
end
end
end
-- PlainD
section
open PySem PySem.W PyProof.Rows PySem.Calls
section
variable {Ar : Int -> Str -> Int -> Prop} {i : Int} {Fin : Int -> Prop} {M : DMod (List Int)} {Kd : List Int -> Prop} {cs : List Nat}
theorem dfa_due (hU : Small U4 i Ar) (G : DGood Ar i Fin M) (hd : ∀ a, Kd a -> DDone Ar Fin M a) (h0 : Kd (startL Ar i)) (hn : ∀ a lab, Kd a -> lab ≠ EPS -> HasL Ar a lab -> Kd (nextL Ar a lab)) :
  (∃ k, runD M cs = some k /\ M.fin k) ↔ ∃ a, runP Ar i cs a /\ Fin a := by
 rcases runD_runP hU G hd h0 hn _ cs rfl with ⟨e, h⟩ | ⟨k, e, kd, _, h⟩
 ·rw [e]
  exact ⟨fun q89 => x12 q89 fun _ q _ => (nomatch q), fun q810 => x12 q810 fun a q _ => absurd q (h a)⟩
 ·rw [e]
  constructor
  ·rintro q85; refine x12 q85 fun k' q f => ?_
   cases q
   refine x12 (G.fin1 _ f) fun b hb f => ?_
   exact ⟨b, (h b).mp hb, f⟩
  ·rintro q86; refine x12 q86 fun a q f => ?_
   exact ⟨k, rfl, (hd k kd).fin2 ⟨a, (h a).mpr q, f⟩⟩
theorem dfa_none (hU : Small U4 i Ar) (G : DGood Ar i Fin M) (hd : ∀ a, Kd a -> DDone Ar Fin M a) (h0 : Kd (startL Ar i)) (hn : ∀ a lab, Kd a -> lab ≠ EPS -> HasL Ar a lab -> Kd (nextL Ar a lab)) :
  runD M cs = none ↔ ∀ a, ¬ runP Ar i cs a := by
 rcases runD_runP hU G hd h0 hn _ cs rfl with ⟨e, h⟩ | ⟨k, e, _, hne, h⟩
 ·exact ⟨fun _ => h, fun _ => e⟩
 ·rw [e]
  refine ⟨fun q => (nomatch q), fun q => ?_⟩
  obtain ⟨b, hb⟩ : ∃ b, b ∈ k := by
   cases k with
   | nil => exact absurd rfl hne
   | cons b r => exact ⟨b, by simp⟩
  exact absurd ((h b).mp hb) (q b)
theorem ren_due {ks : List (List Int)} {N : DMod Int} (R : RenR ks M.k0 (fun k lab k' => M.tr k lab = some k') (fun k k' => M.df k = some k') M.fin N) :
  (∃ n, runD N cs = some n /\ N.fin n) ↔ ∃ k, runD M cs = some k /\ M.fin k := by
 rcases R.run _ cs rfl with ⟨e1, e2⟩ | ⟨k, n, e1, e2, hk⟩
 ·rw [e1, e2]
  exact ⟨fun q811 => x12 q811 fun _ q _ => (nomatch q), fun q812 => x12 q812 fun _ q _ => (nomatch q)⟩
 ·rw [e1, e2]
  constructor
  ·rintro q87; refine x12 q87 fun n' q f => ?_
   cases q
   refine x12 (R.fin2 _ f) fun k' hk' f => ?_
   rw [Num.key hk hk']
   exact ⟨_, rfl, f⟩
  ·rintro q88; refine x12 q88 fun k' q f => ?_
   cases q
   refine x12 (R.fin1 _ f) fun n' hn' f => ?_
   rw [Num.inj R.nd hk hn']
   exact ⟨_, rfl, f⟩
end
end
-- LawP
section
open PySem PySem.W PyProof.Rows PySem.Calls
noncomputable def lawRest : List Stmt × Scope := match PySem.Challenge.pw_iu0053_01.main.body[11]? with
 | some (PySem.Stmt.FunctionDef _ _ body _ _ _ sc _ _ _) => (body.drop 6, sc)
 | _ => default
noncomputable def lawE (L fa : Addr) (cdv : Value) : Env := envOfC (Str.ofString "law") lawRest.2 L fa cdv
inductive RowOk (sz : Int) (r : List Int) : Prop
 | mk : ∀ a k b : Int, r = [a, k, b] -> (0 ≤ a /\ a < sz) -> (0 ≤ k /\ k < 5) -> (0 ≤ b /\ b < sz) -> RowOk sz r
theorem RowOk.ex {sz : Int} {r : List Int} : RowOk sz r -> ∃ a k b : Int, r = [a, k, b] /\ (0 ≤ a /\ a < sz) /\ (0 ≤ k /\ k < 5) /\ 0 ≤ b /\ b < sz
 | ⟨a, k, b, h1, h2, h3, h4⟩ => ⟨a, k, b, h1, h2, h3, h4⟩
theorem RowOk.le {sz : Int} {r : List Int} (h : RowOk sz r) (hs : sz ≤ 4) : RowOk 4 r := by
 obtain ⟨a, k, b, e, h1, h2, h3⟩ := h
 exact ⟨a, k, b, e, by lia, h2, by lia⟩
theorem nt_cell {o : Obj} {v : Option Value} (h : o.data = .cell v) : ¬ TupO o := fun ⟨_, xs, n, e⟩ => by rw [h] at e; cases e
theorem ints7 {m : List Int} (hn : m.Nodup) (h : ∀ a ∈ m, U4 a) : m.length ≤ 7 :=
 Nat.le_trans (nodup_le (l2 := [0, 1, 2, 3]) hn fun a ha => by
  refine x02 (h a ha) fun h1 h2 => ?_
  simp only [List.mem_cons, List.not_mem_nil, or_false]
  lia) (by decide)
theorem labs7 {m : List Str} (hn : m.Nodup) (h : ∀ l ∈ m, ∃ k : Int, (0 ≤ k /\ k < 5) /\ l = labOf k) : m.length ≤ 7 :=
 Nat.le_trans (nodup_le (l2 := [labOf 0, labOf 1, labOf 2, labOf 3, labOf 4]) hn fun a ha => by
  refine x12 (h a ha) fun k hk q91 => ?_; subst q91
  have : k = 0 ∨ k = 1 ∨ k = 2 ∨ k = 3 ∨ k = 4 := by lia
  rcases this with rfl | rfl | rfl | rfl | rfl <;> simp) (by decide)
theorem labS {k : Int} (h0 : 0 ≤ k /\ k < 5) (h4 : k ≠ 4) (h3 : k ≠ 3) : Txt.item (Str.ofString "abc") k = labOf k := by
 rw [abc_at h0.1 (by lia)]
 unfold labOf
 rw [if_neg h4, if_neg h3]
theorem ar_U {rows : List (List Int)} {j : Nat} {Ar : Int -> Str -> Int -> Prop} (hrows : ∀ r ∈ rows, RowOk 4 r) (hAr : ∀ a lab b, Ar a lab b ↔ ∃ k : Int, [a, k, b] ∈ rows.take j /\ lab = labOf k) {a : Int} {lab : Str} {b : Int} (h : Ar a lab b) : U4 a /\ U4 b /\ ∃ k : Int, (0 ≤ k /\ k < 5) /\ lab = labOf k := by
 refine x12 ((hAr a lab b).mp h) fun k hk e => ?_
 obtain ⟨a', k', b', e', h1, h2, h3⟩ := hrows _ (List.mem_of_mem_take hk)
 cases e'
 exact ⟨h1, h3, k, h2, e⟩
theorem ar_step {rows : List (List Int)} {j : Nat} {Ar : Int -> Str -> Int -> Prop} {a k b : Int} {lab : Str} (hAr : ∀ a lab b, Ar a lab b ↔ ∃ k : Int, [a, k, b] ∈ rows.take j /\ lab = labOf k) (er : rows[j]? = some [a, k, b]) (hl : lab = labOf k) : ∀ a' l' b', (Ar a' l' b' ∨ (a' = a /\ l' = lab /\ b' = b)) ↔ ∃ k : Int, [a', k, b'] ∈ rows.take (j + 1) /\ l' = labOf k := fun a' l' b' => by
 rw [List.take_add_one, er, hAr]
 constructor
 ·rintro (⟨k', h1, h2⟩ | ⟨rfl, rfl, rfl⟩)
  ·exact ⟨k', List.mem_append_left _ h1, h2⟩
  ·exact ⟨k, by simp, hl⟩
 ·rintro ⟨k', h1, h2⟩
  rcases List.mem_append.mp h1 with h1 | h1
  ·exact .inl ⟨k', h1, h2⟩
  ·simp at h1
   refine x03 h1 fun q92 q93 q94 => ?_; subst q92; subst q93; subst q94
   exact .inr ⟨rfl, h2.trans hl.symm, rfl⟩
section
variable {prog : Program} {w : World} {g : Heap} {L : Addr} {fr : List (Addr × Obj)} {x : Addr} {ti : Tok} {Ar Ar' : Int -> Str -> Int -> Prop} {Fin Fin' : Int -> Prop} {Z Z' : NLay} {P P' : Addr -> Prop} {arr : List Value} {rows : List (List Int)} {h h' : Heap} {m : Str -> Option Value}
noncomputable abbrev LNfa (prog : Program) (w : World) (g : Heap) (L : Addr) (fr : List (Addr × Obj)) (x : Addr) (ti : Tok) (Ar : Int -> Str -> Int -> Prop) (Fin : Int -> Prop) (Z : NLay) (P : Addr -> Prop) (arr : List Value) (rows : List (List Int)) (h : Heap) (m : Str -> Option Value) : Prop :=
 Hs g g L fr (fun h => NfaL prog w g P h x 0 ti Ar Fin Z /\ TupsAre h arr rows) (fun b => P b ∨ b = x ∨ b = Z.dx) h m
theorem Part.nfaT : Part (fun h => NfaL prog w g P h x 0 ti Ar Fin Z /\ TupsAre h arr rows) (fun b => P b ∨ b = x ∨ b = Z.dx) :=
 (Part.nfa.and Part.tups).imp fun b => ⟨fun q => q.elim id False.elim, .inl⟩
theorem LNfa.allD (S : LNfa prog w g L fr x ti Ar Fin Z P arr rows h m) : News g L h ((x, instObj 229 Z.dx) :: (Z.dx, nfaD w Z.t Z.f (.int 0 ti) Z.t1 Z.t2 Z.t3 Z.n) :: (fr ++ allOf g L (fr.map (·.1)) h)) :=
 news_cons (news_cons S.all S.phi.1.od (S.as _ (.inr (.inr rfl))).1.1 (S.as _ (.inr (.inr rfl))).2) S.phi.1.ox (S.as _ (.inr (.inl rfl))).1.1 (S.as _ (.inr (.inl rfl))).2
theorem LNfa.tok (_ : LNfa prog w g L fr x ti Ar Fin Z P arr rows h m) : ∃ t, t = ti := ⟨ti, rfl⟩
theorem LNfa.change (S : LNfa prog w g L fr x ti Ar Fin Z P arr rows h m) (k : ∀ b o, ¬ P b -> h.get? b = some o -> h'.get? b = some o) (tk : TupKeep h h') (hP : ∀ b, P' b -> P b ∨ h.get? b = none) (V : NfaL prog w g P' h' x 0 ti Ar' Fin' Z') (hd : Z'.dx = Z.dx) : LNfa prog w g L fr x ti Ar' Fin' Z' P' arr rows h' m :=
 Hs.change S (fun b o n e => k b o (fun q => n (.inl q)) e) (fun b q => by
  rw [hd] at q
  exact q.elim (fun q => (hP b q).elim (fun q => .inl (.inl q)) .inr) fun q => .inl (.inr q)) Part.nfaT ⟨V, S.phi.2.keep tk⟩ (fun _ e => e) (fun b e => none_sub S.F.keep e)
end
section
variable {g sh h h' : Heap} {L : Addr} {fr : List (Addr × Obj)} {Φ Ψ : Heap -> Prop} {Pf Pg : Addr -> Prop} {m : Str -> Option Value}
theorem Hs.plus (S : Hs g sh L fr Φ Pf h m) (k : ∀ b o, h.get? b = some o -> h'.get? b = some o) (pt : Part Ψ Pg) (ψ : Ψ h') (hn : ∀ b, Pg b -> h.get? b = none) (hsh : ∀ b, h.get? b = none -> sh.get? b = none) : Hs g sh L fr (fun h => Φ h /\ Ψ h) (fun b => Pf b ∨ Pg b) h' m :=
 ⟨S.toLed.stay k, S.part.and pt, ⟨(S.stay' k).phi, ψ⟩, fun b q => q.elim (S.as b) fun q => ⟨S.toLed.fresh_aside (hn b q), hsh b (hn b q)⟩⟩
theorem Hs.plus2 (S : Hs g sh L fr Φ Pf h m) (pt : Part Ψ Pg) (ψ : Ψ h) (hn : ∀ b, Pg b -> Led.Aside L fr b /\ sh.get? b = none) : Hs g sh L fr (fun h => Φ h /\ Ψ h) (fun b => Pf b ∨ Pg b) h m :=
 ⟨S.toLed, S.part.and pt, ⟨S.phi, ψ⟩, fun b q => q.elim (S.as b) (hn b)⟩
theorem Hs.headO {l : Addr} {o o' : Obj} {tl : List (Addr × Obj)} (S : Hs g sh L ((l, o) :: tl) Φ Pf h m) (k : OffKeep [l] h h') (ho : h'.get? l = some o') (nt' : ¬ TupO o') (hl : l ∉ tl.map (·.1)) : Hs g sh L ((l, o') :: tl) Φ Pf h' m := by
 refine x02 (news_hitO (pre := []) S.F S.N (by simp) (fun p hp e => hl (e ▸ List.mem_map_of_mem hp)) k ho) fun F' N' => ?_
 exact ⟨⟨F', N', fun q hq => (List.mem_cons.mp hq).elim (fun e => e ▸ nt') fun h => S.nt q (.tail _ h)⟩, S.part, S.part.mv S.phi (fun b o p e => k b o (fun q => by
  simp only [List.mem_singleton] at q
  exact (S.as b p).1.2 (by simp [q])) e) (fun b o e c => k b o (fun q => by
  simp only [List.mem_singleton] at q
  subst q
  have := (S.N _ (.head _)).1
  rw [e] at this; cases this
  exact S.nt _ (.head _) c) e), fun b p => S.as b p⟩
end
section
variable {prog : Program} {w : World} {g : Heap} {L : Addr} {fr : List (Addr × Obj)} {x xd x2 : Addr} {ti : Tok} {Ar : Int -> Str -> Int -> Prop} {Fin : Int -> Prop} {Z : NLay} {P Pd P2 : Addr -> Prop} {Y : DLay (List Int)} {M : DMod (List Int)} {Y2 : DLay Int} {N : DMod Int} {am : List Value} {Ms : List (List Int)} {h h' : Heap} {m : Str -> Option Value}
noncomputable abbrev LAll (prog : Program) (w : World) (g : Heap) (L : Addr) (fr : List (Addr × Obj)) (x : Addr) (ti : Tok) (Ar : Int -> Str -> Int -> Prop) (Fin : Int -> Prop) (Z : NLay) (P : Addr -> Prop) (xd : Addr) (Y : DLay (List Int)) (M : DMod (List Int)) (Pd : Addr -> Prop) (x2 : Addr) (Y2 : DLay Int) (N : DMod Int) (P2 : Addr -> Prop) (am : List Value) (Ms : List (List Int)) (h : Heap) (m : Str -> Option Value) : Prop :=
 Hs g g L fr (fun h => (NfaL prog w g P h x 0 ti Ar Fin Z /\ DfaM (kkTup prog w dom4 hdom4) g Pd h xd Y M) /\ DfaM (kkInt prog w) g P2 h x2 Y2 N /\ TupsAre h am Ms) (fun b => ((P b ∨ b = x ∨ b = Z.dx) ∨ (Pd b ∨ b = xd ∨ b = Y.dx)) ∨ (P2 b ∨ b = x2 ∨ b = Y2.dx)) h m
theorem Part.lawAll : Part (fun h => (NfaL prog w g P h x 0 ti Ar Fin Z /\ DfaM (kkTup prog w dom4 hdom4) g Pd h xd Y M) /\ DfaM (kkInt prog w) g P2 h x2 Y2 N /\ TupsAre h am Ms) (fun b => ((P b ∨ b = x ∨ b = Z.dx) ∨ (Pd b ∨ b = xd ∨ b = Y.dx)) ∨ (P2 b ∨ b = x2 ∨ b = Y2.dx)) :=
 ((Part.nfa.and Part.dfa).and (Part.dfa.and Part.tups)).imp fun b => by simp only [or_false]
theorem LAll.allD (S : LAll prog w g L fr x ti Ar Fin Z P xd Y M Pd x2 Y2 N P2 am Ms h m) : News g L h ((x, instObj 229 Z.dx) :: (Z.dx, nfaD w Z.t Z.f (.int 0 ti) Z.t1 Z.t2 Z.t3 Z.n) :: (xd, instObj 327 Y.dx) :: (Y.dx, Y.obj w) :: (x2, instObj 327 Y2.dx) :: (Y2.dx, Y2.obj w) :: (fr ++ allOf g L (fr.map (·.1)) h)) :=
 have a := fun b q => (S.as b q).1.1
 have c := fun b q => (S.as b q).2
 news_cons (news_cons (news_cons (news_cons (news_cons (news_cons S.all S.phi.2.1.od (a _ (by simp)) (c _ (by simp))) S.phi.2.1.ox (a _ (by simp)) (c _ (by simp))) S.phi.1.2.od (a _ (by simp)) (c _ (by simp))) S.phi.1.2.ox (a _ (by simp)) (c _ (by simp))) S.phi.1.1.od (a _ (by simp)) (c _ (by simp))) S.phi.1.1.ox (a _ (by simp)) (c _ (by simp))
end
structure LawOk (Ar : Int -> Str -> Int -> Prop) (Fin : Int -> Prop) (M : DMod (List Int)) (N : DMod Int) (Y : DLay (List Int)) (rows : List (List Int)) (wd : List Nat) (Ms : List (List Int)) : Prop where
 hU : Small U4 0 Ar
 v0 : ∃ b, Y.v0 = .ref b
 gk : ∀ k, M.gk k ↔ dom4 k /\ k ≠ []
 good : DGood Ar 0 Fin M
 dn : ∃ Dn : List Int -> Prop, (∀ a, Dn a -> DDone Ar Fin M a) /\ Dn (startL Ar 0) /\ ∀ a lab, Dn a -> lab ≠ EPS -> HasL Ar a lab -> Dn (nextL Ar a lab)
 ngk : N.gk = fun n => 1 ≤ n /\ n ≤ 16
 ren : ∃ ks : List (List Int), ks.length ≤ 16 /\ RenR ks M.k0 (fun k lab k' => M.tr k lab = some k') (fun k k' => M.df k = some k') M.fin N
 met : ∀ q, q ∈ Ms ↔ ∃ a p, q = [a, p] /\ Met rows wd a p
 le : Ms.length ≤ 28
theorem arr_small {rows : List (List Int)} (hrows : ∀ r ∈ rows, RowOk 4 r) : Small U4 0 (ArR rows) where
 len := fun m hm h => ints7 hm h
 init := by decide
 arc := fun a lab b q84 => x12 q84 fun k hk _ => by
  obtain ⟨a', k', b', e', h1, h2, h3⟩ := hrows _ hk
  cases e'
  exact h3
theorem arr_lab {rows : List (List Int)} (hrows : ∀ r ∈ rows, RowOk 4 r) {a : Int} {lab : Str} {b : Int} (h : ArR rows a lab b) : U4 a /\ ∃ k : Int, (0 ≤ k /\ k < 5) /\ lab = labOf k := by
 refine x12 h fun k hk e => ?_
 obtain ⟨a', k', b', e', h1, h2, h3⟩ := hrows _ hk
 cases e'
 exact ⟨h1, k, h2, e⟩
end
-- LawA
section
open PySem PySem.W PyProof.Rows PySem.Calls
theorem off_LawA : True := by
 w_top off
 trivial
noncomputable def lawB (n : Nat) : List Stmt := lawRest.1.drop n
noncomputable def LaA (prog : Program) (w : World) (g : Heap) (L : Addr) (LA : Addr) (frB : List (Addr × Obj)) (x : Addr) (ti : Tok) (arr : List Value) (rows : List (List Int)) (word : Str) (tw : Tok) (hz3 : Heap) (j : Nat) (m : Str -> Option Value) (G9 : List (Addr × Obj) -> Prop) : Prop := ∀ (hX : Heap) (mX : Str -> Option Value) (own : List (Addr × Obj)) (Ar : Int -> Str -> Int -> Prop) (Z : NLay) (P : Addr -> Prop) (q0 : m (Str.ofString "arcs") = some (.ref LA)) (q1 : m (Str.ofString "word") = some (.str word tw)) (q2 : m (Str.ofString "nfa") = some (.ref x)) (q4 : LNfa prog w g L (frB ++ own) x ti Ar (fun _ => False) Z P arr rows hX mX) (q5 : (∀ a ∈ [hz3.objs.size, LA], a ∈ own.map (·.1) ∨ hX.get? a = none)) (q6 : (∀ b, P b ∨ b = x ∨ b = Z.dx -> b ≠ LA)) (q7 : ∀ a lab b, Ar a lab b ↔ ∃ k : Int, [a, k, b] ∈ rows.take j /\ lab = labOf k), G9 (frB ++ allOf g L ((frB ++ own).map (·.1)) hX)
variable {prog : Program} {w : World} {p : Program} {loose : List Str} {mean : ExcName -> Option Value} {mg mb : Str -> Option Value} {g : Heap}
variable {s : Shared} {dp un : Nat} {fr : List Env} {gd : Option (List Code)} {Q : Flow -> Shared -> Prop}
theorem law_a {L fa LA DT : Addr} {cdv : Value} {arr tks : List Value} {c ct : Nat} {rows : List (List Int)} {word : Str} {tw : Tok} {oC oT oH : Obj} {h : Heap} {m : Str -> Option Value} {tk : Nat} {dr : Drawn}
  (H : Base (hd.heap_1 w.params) p loose mean mg mb g)
  (S : Mine.Hs g g L ([(LA, listO arr.toArray c)] ++ [(DT, listO tks.toArray ct), (L + 1 + 1 + 1, oC), (L + 1 + 1, oT), (L + 1, oH), (332, tabObj #[])]) (fun h => TupsAre h arr rows) (fun _ => False) h m)
  (hLA : DT ≠ LA /\ L + 1 + 1 + 1 ≠ LA /\ L + 1 + 1 ≠ LA /\ L + 1 ≠ LA /\ 332 ≠ LA)
  (m1 : m (Str.ofString "arcs") = some (.ref LA)) (m2 : m (Str.ofString "word") = some (.str word tw)) (hrows : ∀ r ∈ rows, RowOk 4 r)
  (hd1 : dp + 49 < recursionLimit) (hu : un + 200 < cLine)
  (hnext : ∀ (h' : Heap) (m' : Str -> Option Value) (tk : Nat) (dr : Drawn) (x : Addr) (ti : Tok) (Z : NLay) (P : Addr -> Prop), m' (Str.ofString "arcs") = some (.ref LA) -> m' (Str.ofString "word") = some (.str word tw) -> m' (Str.ofString "nfa") = some (.ref x) ->
   LNfa prog w g L ([(LA, listO arr.toArray c)] ++ [(DT, listO tks.toArray ct), (L + 1 + 1 + 1, oC), (L + 1 + 1, oT), (L + 1, oH), (332, tabObj #[])]) x ti (ArR rows) (fun _ => False) Z P arr rows h' m' ->
   wpAny (model prog w) ((A0 dp un fr gd).deeper (lawE L fa cdv)) (execs (lawB 2) (lawE L fa cdv)) Q noE { s with heap := h', toks := tk, drawn := dr }) :
  wpAny (model prog w) ((A0 dp un fr gd).deeper (lawE L fa cdv)) (execs (lawB 0) (lawE L fa cdv)) Q noE { s with heap := h, toks := tk, drawn := dr } := by
 refine x11 (⟨_, rfl⟩ : ∃ rest, lawB 2 = rest) fun rest hrest => ?_
 have hB : lawB 0 = _ :: _ :: lawB 2 := rfl
 rw [hB]
 rw [hrest] at hnext ⊢
 clear hrest hB
 have hp : lawRest = (_, _) := rfl
 have hE : lawE L fa cdv = envOfC (Str.ofString "law") _ L fa cdv := congrArg (fun q : List Stmt × Scope => envOfC (Str.ofString "law") q.2 L fa cdv) hp
 dsimp only at hE
 rw [hE] at hnext ⊢
 clear hp hE
 have X := H.X
 have T := H.T
 have F := fr_put (Str.ofString "arcs") (fr_put (Str.ofString "word") S.F m2) (by exact m1)
 have N := S.all
 dsimp only [List.cons_append, List.nil_append] at N
 o_steps
 (rename Fr _ _ _ _ => F1; rename News _ _ _ _ => N1; try rename Heap => hz1)
 have Sz1 := S.same F1 N1 (by w_tidy)
 clear S F1 N1
 refine mk_nfa H ?_ ?_ ?_ fun h2 tk2 x dx ta fa' u1 u2 u3 P l2 dOf2 lOf2 sOf2 hk2 hP2 V2 => ?_
 ·exact Sz1.F.keep
 ·exact (rmL hd1 rfl : dp + 20 < recursionLimit)
 ·exact (rmL hu rfl : un + 83 < cLine)
 generalize hfr : [(DT, listO tks.toArray ct), (L + 1 + 1 + 1, oC), (L + 1 + 1, oT), (L + 1, oH), (332, tabObj #[])] = frB at *
 have Sz2 : LNfa prog w g L ([(LA, listO arr.toArray c)] ++ frB) x _ (fun _ _ _ => False) (fun _ => False) ⟨dx, ta, fa', u1, u2, u3, 3, l2, dOf2, lOf2, sOf2⟩ P arr rows h2 _ :=
  ⟨Sz1.toLed.stay hk2, Part.nfaT, ⟨V2, Sz1.phi.keep fun b o e _ => hk2 b o e⟩, fun b q => ⟨Sz1.toLed.fresh_aside (hP2 b q), none_sub Sz1.F.keep (hP2 b q)⟩⟩
 clear Sz1 V2 hP2 hk2
 have Fz2 := Sz2.F
 have Nz2 := Sz2.all
 rw [← hfr] at Nz2
 dsimp only [List.cons_append, List.nil_append] at Nz2
 o_steps
 (rename Fr _ _ _ _ => Fz3; rename News _ _ _ _ => Nz3; try rename Heap => hz3)
 have Sz3 := Sz2.same Fz3 Nz3 (by rw [← hfr]; w_tidy)
 clear Sz2
 refine x11 (LNfa.tok Sz3) fun ti hti => ?_
 subst hti
 refine For_g (hs := fun _ => rfl) g ?_
 o_steps
 have hLo : hz3.get? LA = some (listO arr.toArray c) := (Sz3.N (LA, listO arr.toArray c) (by omega_side)).1
 have hLL : LA ≠ L := (Sz3.N (LA, listO arr.toArray c) (by omega_side)).2.1
 have hLg : g.get? LA = none := (Sz3.N (LA, listO arr.toArray c) (by omega_side)).2.2
 have hLB : LA ∉ frB.map (·.1) := by
  rw [← hfr]
  simp only [List.map_cons, List.map_nil, List.mem_cons, List.not_mem_nil, or_false, not_or]
  exact ⟨Ne.symm hLA.1, Ne.symm hLA.2.1, Ne.symm hLA.2.2.1, Ne.symm hLA.2.2.2.1, Ne.symm hLA.2.2.2.2⟩
 have Sz4 : LNfa prog w g L (frB ++ [(LA, listO arr.toArray c)]) _ _ _ _ _ P arr rows hz3 _ := Sz3.drop fun q hq => (List.mem_append.mp hq).elim (List.mem_append_right _) (List.mem_append_left _)
 have hPL := fun b q => (Sz4.as b q).1.2
 simp only [List.map_append, List.mem_append, not_or, List.map_cons, List.map_nil, List.mem_singleton] at hPL
 clear Nz3
 refine iter_tupsG (fun j m news => Chu (LaA prog w g L LA frB x ti arr rows word tw hz3 j m) news) hLo ?_ (Ne.symm hLL) ?_ rfl Fz3 (news := frB ++ allOf g L ((frB ++ [(LA, listO arr.toArray c)]).map (·.1)) hz3) ?_ ?_ ?_ ?_
 ·intro v hv
  refine x11 (List.mem_iff_getElem?.mp hv) fun q hq => ?_
  refine x23 (Sz3.phi.2.get q v hq) fun b _ _ e _ => ?_
  exact ⟨b, e⟩
 ·intro q hq e
  rcases List.mem_append.mp hq with hq | hq
  ·exact hLB (e ▸ List.mem_map_of_mem hq)
  ·exact (mem_allOf.mp hq).2.2.2 (by rw [e]; simp)
 ·exact fun q hq => Sz4.all q ((List.mem_append.mp hq).elim (fun h => List.mem_append_left _ (List.mem_append_left _ h)) (List.mem_append_right _))
 ·exact (fun _ k9 => k9 hz3 _ _ _ _ P rfl rfl rfl Sz4 (by simp [fresh_size]) (fun b q => (hPL b q).2) (fun a lab b => ⟨fun q => q.elim, fun q81 => x12 q81 fun k q _ => by simp at q⟩))
 ·clear Sz3 Sz4 Fz3 hPL hLo
  rintro j T2 mz2 news2 hz10 tk10 dr10 own hj hJ9
  refine Chu.out hJ9 ?_
  clear hJ9
  rintro hX mX own' Ar Z P m1 m2 m3 SX hIX hPL hAr hav hown hIo hro F10 N10
  refine stepG_hide fun G hG => ?_
  have S10 := SX.turnL F10 N10 hown hIX
  have hin : ∀ a ∈ [hz3.objs.size, LA], a ∈ own.map (·.1) := by
   intro a ha
   simp only [List.mem_cons, List.not_mem_nil, or_false] at ha
   rcases ha with rfl | rfl
   ·refine x11 hIo fun o ho => ?_
    exact List.mem_map.mpr ⟨_, ho, rfl⟩
   ·refine x11 (hro hLg) fun o ho => ?_
    exact List.mem_map.mpr ⟨_, ho, rfl⟩
  have hfo : ∀ q ∈ frB, q.1 ∉ [hz3.objs.size, LA] := fun q hq => hav q (List.mem_append_left _ hq)
  clear N10 F10 SX hIX hav hown hIo hro
  refine x23 (S10.phi.2.get j _ (by simpa using hj)) fun b3 kx er e TI => ?_
  cases e
  obtain ⟨a2, k, b, rfl, ha2, hk2, hb2⟩ := hrows kx (List.mem_of_getElem? er)
  refine x31 (three_of TI) fun t1 t2 t3 hT3 => ?_
  refine assign_three rfl hT3 fun h11 hk11 => ?_
  have S11 := S10.stay' hk11
  clear S10 TI hT3
  have F11 := fr_put (Str.ofString "arcs") (fr_put (Str.ofString "word") (fr_put (Str.ofString "nfa") S11.F m3) (by exact m2)) (by exact m1)
  have N11 := LNfa.allD S11
  rw [← hfr] at N11
  dsimp only [List.cons_append, List.nil_append] at N11
  o_steps
  all_goals (
   (rename Fr _ _ _ _ => F12; rename News _ _ _ _ => N12; try rename Heap => hz12)
   have S12 := S11.same F12 N12 (by rw [← hfr]; w_tidy)
   clear S11 F12 N12
   refine wpAny_call ?_
   refine n_add_trans H S12.F.keep S12.phi.1 ?_ ?_ ?_ ?_ ?_ fun h16 tk16 P3 l3 dOf3 lOf3 sOf3 hk16 hP3 tkk V3 => ?_
   ·exact fun m hm hmm => ints7 hm fun q hq => (hmm q hq).elim (fun e => e ▸ hb2) fun h => (ar_U hrows hAr h).2.1
   ·exact fun m hm hmm => ints7 hm fun q hq => x21 (hmm q hq) fun _ _ h => (ar_U hrows hAr h).1
   ·exact fun m hm hmm => labs7 hm fun q hq => x21 (hmm q hq) fun _ _ h => (ar_U hrows hAr h).2.2
   ·exact (rmL hd1 rfl : dp + 10 < recursionLimit)
   ·exact (rmL hu rfl : un + 43 < cLine)
   have S16 := LNfa.change (Z' := { Z with l := l3, dOf := dOf3, lOf := lOf3, sOf := sOf3 }) S12 hk16 tkk hP3 V3 rfl
   clear S12
   try dsimp only
   have F16 := S16.F
   have N16 := S16.all
   rw [← hfr] at N16
   dsimp only [List.cons_append, List.nil_append] at N16
   o_steps
   exact hG h16 _ _ _ _ F16 S16.toLed.endN (Led.endA hin hfo) (fun _ k9 => k9 h16 _ own _ _ P3 rfl rfl rfl S16 (fun a ha => .inl (hin a ha)) (fun b q e => (S16.as b q).1.2 (by rw [List.map_append]; exact List.mem_append_right _ (e ▸ hin LA (by omega_side)))) (ar_step hAr er (by first | exact lab_eps.mpr (by assumption) | exact lab_any.mpr (by assumption) | exact labS hk2 (by assumption) (by assumption)))))
 ·clear Sz3 Sz4 Fz3 hPL hLo
  rintro mz2 news2 hz10 tk10 dr10 hLo hJ9
  refine Chu.out hJ9 ?_
  clear hJ9
  rintro hX mX own' Ar Z P m1 m2 m3 SX hIX hPL hAr F10 N10
  have S10 : LNfa prog w g L frB x ti Ar (fun _ => False) Z P arr rows hz10 mz2 := SX.leave F10 N10
  clear SX F10 N10
  have S11 : LNfa prog w g L ([(LA, listO arr.toArray c)] ++ frB) x ti Ar (fun _ => False) Z P arr rows hz10 mz2 := S10.add (fun q hq => by simp only [List.mem_singleton] at hq; subst hq; exact ⟨hLo, hLL, hLg⟩) (fun q hq => by simp only [List.mem_singleton] at hq; subst hq; exact nt_cls (by show (Value.type "list") ≠ _; decide)) fun b q => by simpa using hPL b q
  have eAr : Ar = ArR rows := by
   funext a lab b
   have := hAr a lab b
   rw [List.take_of_length_le (by have := S10.phi.2.len; simp; lia)] at this
   exact propext this
  rw [eAr] at S11
  o_steps
  exact hnext _ _ _ _ x ti Z P m1 m2 m3 S11
end
-- LawB
section
open PySem PySem.W PyProof.Rows PySem.Calls
theorem off_LawB : True := by
 w_top off
 trivial
theorem ints_at {vs : List Value} {xs : List Int} (x : IntsAre vs xs) : ∀ (i : Nat) (v : Value), vs[i]? = some v -> ∃ n t, xs[i]? = some n /\ v = .int n t := by
 induction x with
 | nil => exact fun i v e => nomatch e
 | cons n t r ih =>
  intro i v e
  cases i with
  | zero => exact ⟨n, t, rfl, (Option.some.inj e).symm⟩
  | succ i => exact ih i v e
theorem fin_step {ns : List Int} {j : Nat} {n : Int} {Fin : Int -> Prop} (hF : ∀ a, Fin a ↔ a ∈ ns.take j) (e : ns[j]? = some n) : ∀ a, (a = n ∨ Fin a) ↔ a ∈ ns.take (j + 1) := fun a => by
 rw [List.take_add_one, e, hF, List.mem_append]
 simp only [Option.toList_some, List.mem_singleton]
 exact Or.comm
noncomputable def LaB (prog : Program) (w : World) (g : Heap) (L : Addr) (LA : Addr) (DT : Addr) (frB : List (Addr × Obj)) (x : Addr) (ti : Tok) (Ar : Int -> Str -> Int -> Prop) (Z : NLay) (P : Addr -> Prop) (arr : List Value) (rows : List (List Int)) (ns : List Int) (word : Str) (tw : Tok) (hz1 : Heap) (j : Nat) (m : Str -> Option Value) (G9 : List (Addr × Obj) -> Prop) : Prop := ∀ (hX : Heap) (mX : Str -> Option Value) (own : List (Addr × Obj)) (Fin : Int -> Prop) (q0 : m (Str.ofString "arcs") = some (.ref LA)) (q1 : m (Str.ofString "word") = some (.str word tw)) (q2 : m (Str.ofString "nfa") = some (.ref x)) (q4 : LNfa prog w g L (frB ++ own) x ti Ar Fin Z P arr rows hX mX) (q5 : (∀ a ∈ [hz1.objs.size, DT], a ∈ own.map (·.1) ∨ hX.get? a = none)) (q6 : ∀ a, Fin a ↔ a ∈ ns.take j), G9 (frB ++ allOf g L ((frB ++ own).map (·.1)) hX)
variable {prog : Program} {w : World} {p : Program} {loose : List Str} {mean : ExcName -> Option Value} {mg mb : Str -> Option Value} {g : Heap}
variable {s : Shared} {dp un : Nat} {fr : List Env} {gd : Option (List Code)} {Q : Flow -> Shared -> Prop}
theorem law_b {L fa LA DT x : Addr} {ti : Tok} {cdv : Value} {arr tks : List Value} {ns : List Int} {c ct : Nat} {rows : List (List Int)} {word : Str} {tw : Tok} {oC oT oH : Obj} {h : Heap} {m : Str -> Option Value} {tk : Nat} {dr : Drawn} {Ar : Int -> Str -> Int -> Prop} {Z : NLay} {P : Addr -> Prop}
  (H : Base (hd.heap_1 w.params) p loose mean mg mb g)
  (S : LNfa prog w g L ([(LA, listO arr.toArray c)] ++ [(DT, listO tks.toArray ct), (L + 1 + 1 + 1, oC), (L + 1 + 1, oT), (L + 1, oH), (332, tabObj #[])]) x ti Ar (fun _ => False) Z P arr rows h m)
  (hDT : LA ≠ DT /\ L + 1 + 1 + 1 ≠ DT /\ L + 1 + 1 ≠ DT /\ L + 1 ≠ DT /\ 332 ≠ DT) (dT : oT.data = .cell (some (.ref DT))) (hns : IntsAre tks ns) (hnU : ∀ a ∈ ns, U4 a)
  (m1 : m (Str.ofString "arcs") = some (.ref LA)) (m2 : m (Str.ofString "word") = some (.str word tw)) (m3 : m (Str.ofString "nfa") = some (.ref x))
  (hd1 : dp + 49 < recursionLimit) (hu : un + 200 < cLine)
  (hnext : ∀ (h' : Heap) (m' : Str -> Option Value) (tk : Nat) (dr : Drawn), m' (Str.ofString "arcs") = some (.ref LA) -> m' (Str.ofString "word") = some (.str word tw) -> m' (Str.ofString "nfa") = some (.ref x) ->
   LNfa prog w g L ([(LA, listO arr.toArray c)] ++ [(DT, listO tks.toArray ct), (L + 1 + 1 + 1, oC), (L + 1 + 1, oT), (L + 1, oH), (332, tabObj #[])]) x ti Ar (fun a => a ∈ ns) Z P arr rows h' m' ->
   wpAny (model prog w) ((A0 dp un fr gd).deeper (lawE L fa cdv)) (execs (lawB 3) (lawE L fa cdv)) Q noE { s with heap := h', toks := tk, drawn := dr }) :
  wpAny (model prog w) ((A0 dp un fr gd).deeper (lawE L fa cdv)) (execs (lawB 2) (lawE L fa cdv)) Q noE { s with heap := h, toks := tk, drawn := dr } := by
 refine x11 (⟨_, rfl⟩ : ∃ rest, lawB 3 = rest) fun rest hrest => ?_
 have hB : lawB 2 = _ :: lawB 3 := rfl
 rw [hB]
 rw [hrest] at hnext ⊢
 clear hrest hB
 have hp : lawRest = (_, _) := rfl
 have hE : lawE L fa cdv = envOfC (Str.ofString "law") _ L fa cdv := congrArg (fun q : List Stmt × Scope => envOfC (Str.ofString "law") q.2 L fa cdv) hp
 dsimp only at hE
 rw [hE] at hnext ⊢
 clear hp hE
 have X := H.X
 have T := H.T
 have F := fr_put (Str.ofString "arcs") (fr_put (Str.ofString "word") (fr_put (Str.ofString "nfa") S.F m3) (by exact m2)) (by exact m1)
 have N := S.all
 dsimp only [List.cons_append, List.nil_append] at N
 refine wpAny_execs_cons ?_
 refine For_g (hs := fun _ => rfl) g ?_
 o_steps
 (rename Fr _ _ _ _ => F1; rename News _ _ _ _ => N1; try rename Heap => hz1)
 have Sz1 := S.same F1 N1 (by w_tidy)
 clear S
 generalize hfr : [(LA, listO arr.toArray c), (L + 1 + 1 + 1, oC), (L + 1 + 1, oT), (L + 1, oH), (332, tabObj #[])] = frB at *
 have Sz2 : LNfa prog w g L (frB ++ [(DT, listO tks.toArray ct)]) x ti Ar _ Z P arr rows hz1 _ := Sz1.drop (by rw [← hfr]; omega_side)
 have hDo : hz1.get? DT = some (listO tks.toArray ct) := N1.get (by k_mem)
 have hDL : DT ≠ L := (N1 (DT, listO tks.toArray ct) (by k_mem)).2.1
 have hDg : g.get? DT = none := (N1 (DT, listO tks.toArray ct) (by k_mem)).2.2
 clear N1 Sz1
 have hDB : DT ∉ frB.map (·.1) := by
  rw [← hfr]
  simp only [List.map_cons, List.map_nil, List.mem_cons, List.not_mem_nil, or_false, not_or]
  exact ⟨Ne.symm hDT.1, Ne.symm hDT.2.1, Ne.symm hDT.2.2.1, Ne.symm hDT.2.2.2.1, Ne.symm hDT.2.2.2.2⟩
 have hPD := fun b q => (Sz2.as b q).1.2
 simp only [List.map_append, List.mem_append, not_or, List.map_cons, List.map_nil, List.mem_singleton] at hPD
 refine iter_listG (ht := fun _ _ => rfl) (fun j m news => Chu (LaB prog w g L LA DT frB x ti Ar Z P arr rows ns word tw hz1 j m) news) hDo (Ne.symm hDL) ?_ rfl F1 (news := frB ++ allOf g L ((frB ++ [(DT, listO tks.toArray ct)]).map (·.1)) hz1) ?_ ?_ ?_ ?_ hDg
 ·intro q hq e
  rcases List.mem_append.mp hq with hq | hq
  ·exact hDB (e ▸ List.mem_map_of_mem hq)
  ·exact (mem_allOf.mp hq).2.2.2 (by rw [e]; simp)
 ·exact fun q hq => Sz2.all q ((List.mem_append.mp hq).elim (fun h => List.mem_append_left _ (List.mem_append_left _ h)) (List.mem_append_right _))
 ·exact fun _ _ _ _ _ => (fun _ k9 => k9 hz1 _ _ _ rfl rfl rfl Sz2 (by simp [fresh_size]) (fun a => by simp))
 ·clear Sz2 F1 hDo
  rintro j v mz2 news2 hz10 tk10 dr10 own hj hJ9
  refine Chu.out hJ9 ?_
  clear hJ9
  rintro hX mX own' Fin m1 m2 m3 SX hIX hF hav hown hIo hro F10 N10
  refine stepG_hide fun G hG => ?_
  have S10 := SX.turnL F10 N10 hown hIX
  have hin : ∀ a ∈ [hz1.objs.size, DT], a ∈ own.map (·.1) := by
   intro a ha
   simp only [List.mem_cons, List.not_mem_nil, or_false] at ha
   rcases ha with rfl | rfl
   ·refine x11 hIo fun o ho => ?_
    exact List.mem_map.mpr ⟨_, ho, rfl⟩
   ·refine x11 hro fun o ho => ?_
    exact List.mem_map.mpr ⟨_, ho, rfl⟩
  have hfo : ∀ q ∈ frB, q.1 ∉ [hz1.objs.size, DT] := fun q hq => hav q (List.mem_append_left _ hq)
  clear N10 F10 SX hIX hav hown hIo hro
  refine x22 (ints_at hns j v (by simpa using hj)) fun n tn en q91 => ?_; subst q91
  have hFU : ∀ a, Fin a -> U4 a := fun a q => hnU _ (List.mem_of_mem_take ((hF a).mp q))
  refine wpAny_assign_Name ?_
  have F11 := fr_put (Str.ofString "arcs") (fr_put (Str.ofString "word") (fr_put (Str.ofString "nfa") S10.F m3) (by exact m2)) (by exact m1)
  have N11 := LNfa.allD S10
  rw [← hfr] at N11
  dsimp only [List.cons_append, List.nil_append] at N11
  o_steps
  (rename Fr _ _ _ _ => F12; rename News _ _ _ _ => N12; try rename Heap => hz12)
  have S12 := S10.same F12 N12 (by rw [← hfr]; w_tidy)
  clear S10 F12 N12
  refine wpAny_call ?_
  refine n_add_final H S12.F.keep S12.phi.1 ?_ ?_ ?_ fun h16 tk16 hoff V3 => ?_
  ·exact fun m hm hmm => ints7 hm fun q hq => (hmm q hq).elim (fun e => e ▸ hnU _ (List.mem_of_getElem? en)) (hFU q)
  ·exact (rmL hd1 rfl : dp + 10 < recursionLimit)
  ·exact (rmL hu rfl : un + 43 < cLine)
  have S16 := LNfa.change (Z' := Z) S12 (fun b o nb e => hoff b o (by simp; rintro rfl; exact nb S12.phi.1.pf) e) (off_tkN hoff fun d hd o e => by
   simp only [List.mem_singleton] at hd
   subst hd
   refine x12 S12.phi.1.S fun lf Sf _ => ?_
   refine x13 Sf.cls fun o' e' cc _ => ?_
   rw [e] at e'; cases e'
   rw [cc]; decide) (fun b q => .inl q) V3 rfl
  clear S12
  try dsimp only
  have F16 := S16.F
  have N16 := S16.all
  rw [← hfr] at N16
  dsimp only [List.cons_append, List.nil_append] at N16
  o_steps
  exact hG h16 _ _ _ _ F16 S16.toLed.endN (Led.endA hin hfo) (fun _ k9 => k9 h16 _ own _ rfl rfl rfl S16 (fun a ha => .inl (hin a ha)) (fin_step hF en))
 ·clear Sz2 F1 hDo
  rintro mz2 news2 hz10 tk10 dr10 hDo hJ9
  refine Chu.out hJ9 ?_
  clear hJ9
  rintro hX mX own' Fin m1 m2 m3 SX hIX hF F10 N10
  have S10 : LNfa prog w g L frB x ti Ar Fin Z P arr rows hz10 mz2 := SX.leave F10 N10
  clear SX F10 N10
  have S11 : LNfa prog w g L ([(DT, listO tks.toArray ct)] ++ frB) x ti Ar Fin Z P arr rows hz10 mz2 := S10.add (fun q hq => by simp only [List.mem_singleton] at hq; subst hq; exact ⟨hDo, hDL, hDg⟩) (fun q hq => by simp only [List.mem_singleton] at hq; subst hq; exact nt_cls (by show (Value.type "list") ≠ _; decide)) fun b q => by simpa using (hPD b q).2
  have eF : Fin = fun a => a ∈ ns := by
   funext a
   have := hF a
   rw [List.take_of_length_le (by have := ints_len hns; simp; lia)] at this
   exact propext this
  subst eF
  o_steps
  exact hnext _ _ _ _ m1 m2 m3 (S11.drop (by rw [← hfr]; omega_side))
end
-- LawC
section
open PySem PySem.W PyProof.Rows PySem.Calls
theorem off_LawC : True := by
 w_top off
 trivial
variable {prog : Program} {w : World} {p : Program} {loose : List Str} {mean : ExcName -> Option Value} {mg mb : Str -> Option Value} {g : Heap}
variable {s : Shared} {dp un : Nat} {fr : List Env} {gd : Option (List Code)} {Q : Flow -> Shared -> Prop}
theorem law_c {L fa LA DT x : Addr} {ti : Tok} {cdv : Value} {arr tks : List Value} {ns : List Int} {c ct : Nat} {rows : List (List Int)} {word : Str} {tw : Tok} {oC oT oH : Obj} {h : Heap} {m : Str -> Option Value} {tk : Nat} {dr : Drawn} {Z : NLay} {P : Addr -> Prop}
  (H : Base (hd.heap_1 w.params) p loose mean mg mb g) (CH : CodeHd g 336 332)
  (S : LNfa prog w g L ([(LA, listO arr.toArray c)] ++ [(DT, listO tks.toArray ct), (L + 1 + 1 + 1, oC), (L + 1 + 1, oT), (L + 1, oH), (332, tabObj #[])]) x ti (ArR rows) (fun a => a ∈ ns) Z P arr rows h m)
  (h332 : (332 : Addr) ∉ [LA, DT, L + 1 + 1 + 1, L + 1 + 1, L + 1])
  (m1 : m (Str.ofString "arcs") = some (.ref LA)) (m2 : m (Str.ofString "word") = some (.str word tw)) (m3 : m (Str.ofString "nfa") = some (.ref x)) (hrows : ∀ r ∈ rows, RowOk 4 r) (hr8 : rows.length ≤ 8) (hw6 : word.cps.size ≤ 6)
  (hd1 : dp + 49 < recursionLimit) (hu : un + 200 < cLine)
  (hnext : ∀ (h' : Heap) (m' : Str -> Option Value) (tk : Nat) (dr : Drawn) (xd : Addr) (Y : DLay (List Int)) (M : DMod (List Int)) (Pd : Addr -> Prop) (x2 : Addr) (Y2 : DLay Int) (N : DMod Int) (P2 : Addr -> Prop) (am : List Value) (Ms : List (List Int)) (ME : Addr) (cm : Nat) (ps : Array Value),
   m' (Str.ofString "word") = some (.str word tw) -> m' (Str.ofString "nfa") = some (.ref x) -> m' (Str.ofString "dfa") = some (.ref xd) -> m' (Str.ofString "anew") = some (.ref x2) -> m' (Str.ofString "met") = some (.ref ME) -> m' (Str.ofString "state") = some Y.v0 ->
   ME ∉ [DT, L + 1 + 1 + 1, L + 1 + 1, L + 1, 332] ->
   LAll prog w g L [(DT, listO tks.toArray ct), (L + 1 + 1 + 1, oC), (L + 1 + 1, oT), (L + 1, oH), (332, tabObj ps), (ME, listO am.toArray cm)] x ti (ArR rows) (fun a => a ∈ ns) Z P xd Y M Pd x2 Y2 N P2 am Ms h' m' ->
   LawOk (ArR rows) (fun a => a ∈ ns) M N Y rows word.cps.toList Ms ->
   wpAny (model prog w) ((A0 dp un fr gd).deeper (lawE L fa cdv)) (execs (lawB 7) (lawE L fa cdv)) Q noE { s with heap := h', toks := tk, drawn := dr }) :
  wpAny (model prog w) ((A0 dp un fr gd).deeper (lawE L fa cdv)) (execs (lawB 3) (lawE L fa cdv)) Q noE { s with heap := h, toks := tk, drawn := dr } := by
 refine x11 (⟨_, rfl⟩ : ∃ rest, lawB 7 = rest) fun rest hrest => ?_
 have hB : lawB 3 = _ :: _ :: _ :: _ :: lawB 7 := rfl
 rw [hB]
 rw [hrest] at hnext ⊢
 clear hrest hB
 have hp : lawRest = (_, _) := rfl
 have hE : lawE L fa cdv = envOfC (Str.ofString "law") _ L fa cdv := congrArg (fun q : List Stmt × Scope => envOfC (Str.ofString "law") q.2 L fa cdv) hp
 dsimp only at hE
 rw [hE] at hnext ⊢
 clear hp hE
 have X := H.X
 have T := H.T
 have hU := arr_small hrows
 have F := fr_put (Str.ofString "arcs") (fr_put (Str.ofString "word") (fr_put (Str.ofString "nfa") S.F m3) (by exact m2)) (by exact m1)
 have N := LNfa.allD S
 dsimp only [List.cons_append, List.nil_append] at N
 o_steps
 (rename Fr _ _ _ _ => F1; rename News _ _ _ _ => N1; try rename Heap => hz1)
 have Sz1 := S.same F1 N1 (by w_tidy)
 clear S N1
 refine wpAny_call ?_
 refine n_to_dfa H Sz1.F.keep Sz1.phi.1.at hU ?_ ?_ ?_ fun h2 tk2 dr2 xd Y M Pd Dn hk2 hPd V2 gk gl hv0 G1 G2 G3 G4 => ?_
 ·exact fun m hm hmm => labs7 hm fun q hq => x21 (hmm q hq) fun _ _ h => (arr_lab hrows h).2
 ·exact (rmL hd1 rfl : dp + 40 < recursionLimit)
 ·exact (rmL hu rfl : un + 163 < cLine)
 try dsimp only
 have hsh : ∀ {fr' : List (Addr × Obj)} {Φ : Heap -> Prop} {Pf : Addr -> Prop} {h : Heap} {m : Str -> Option Value}, Mine.Hs g g L fr' Φ Pf h m -> ∀ b, h.get? b = none -> g.get? b = none := fun S b e => none_sub S.F.keep e
 have Sz2 := Hs.plus Sz1 hk2 Part.dfa V2 hPd (hsh Sz1)
 have n332 : ¬ Pd 332 := fun q => by
  have := hPd _ (.inl q)
  rw [(Sz1.N (332, tabObj #[]) (by omega_side)).1] at this; cases this
 clear Sz1 F1 V2 hPd hk2
 have Fz2 := Sz2.F
 have Nz2 := Sz2.all
 dsimp only [List.cons_append, List.nil_append] at Nz2
 o_steps
 (rename Fr _ _ _ _ => Fz3; rename News _ _ _ _ => Nz3; try rename Heap => hz3)
 have Sz3 := Sz2.same Fz3 Nz3 (by w_tidy)
 clear Sz2 Nz3
 have Vz3 := Sz3.phi.2
 have hfd : ∀ a, M.fin a -> dom4 a /\ a ≠ [] := fun a ha => by
  refine x12 Vz3.S fun lf Sf hf => ?_
  obtain ⟨_, _, _, _, _, _, _, hok, _⟩ := Sf
  refine ⟨hok a ((hf a).mpr ha), fun e => ?_⟩
  refine x12 (G1.fin1 a ha) fun b hb _ => ?_
  rw [e] at hb; cases hb
 refine wpAny_call ?_
 refine renum_c H Sz3.F.keep CH (Sz3.N (332, tabObj #[]) (by omega_side)).1 (Sz3.N (332, tabObj #[]) (by omega_side)).2.2 Vz3 n332 hv0 (G1.k0 ▸ startL_dom hU) ?_ ?_ hfd ?_ ?_ ?_ fun h4 tk4 dr4 x2 Y2 N P2 ks hoff hps hP2 V4 ngk hks hren => ?_
 ·exact fun a lab k' e => ⟨((gk a).mp (Vz3.okl a (Vz3.has a lab k' e).1).1).1, (G1.tr1 a lab k' e).2.2.2 ▸ nextL_dom hU _ _⟩
 ·exact fun a k' e => ⟨((gk a).mp (Vz3.oke a (Vz3.dhas a k' e))).1, (G1.df1 a k' e).2 ▸ nextL_dom hU _ _⟩
 ·exact fun m hm hmm => Nat.le_trans (labs7 hm fun q hq => x21 ((gl q).mp (hmm q hq)) fun _ _ h => (arr_lab hrows h).2) (by decide)
 ·exact (rmL hd1 rfl : dp + 40 < recursionLimit)
 ·exact (rmL hu rfl : un + 163 < cLine)
 try dsimp only
 refine x11 hps fun ps hps => ?_
 have S3' := Sz3.drop (fr' := (332, tabObj #[]) :: [(LA, listO arr.toArray c), (DT, listO tks.toArray ct), (L + 1 + 1 + 1, oC), (L + 1 + 1, oT), (L + 1, oH)]) (by omega_side)
 have Sz4 := Hs.plus2 (Ψ := fun h => DfaM (kkInt prog w) g P2 h x2 Y2 N) (Hs.headO S3' hoff hps (nt_cls (by show Value.none ≠ _; decide)) h332) Part.dfa V4 fun b q => ⟨S3'.toLed.fresh_aside (hP2 b q), none_sub S3'.F.keep (hP2 b q)⟩
 clear S3' Sz3 Fz3 hoff hps Vz3 V4 hP2
 have F4 := Sz4.F
 have N4 := Sz4.all
 dsimp only [List.cons_append, List.nil_append] at N4
 o_steps
 (rename Fr _ _ _ _ => F5; rename News _ _ _ _ => N5; try rename Heap => hz5)
 have Sz5 := Sz4.same F5 N5 (by w_tidy)
 clear Sz4
 refine wpAny_call ?_
 refine walks_c H Sz5.F.keep (N5.get (a := LA) (by k_mem)) Sz5.phi.1.1.2 (fun r hr => (hrows r hr).ex) hr8 hw6 ?_ ?_ fun h6 tk6 dr6 ME am cm Ms hk6 hME hoM htM hMs hM28 => ?_
 ·exact (rmL hd1 rfl : dp + 40 < recursionLimit)
 ·exact (rmL hu rfl : un + 163 < cLine)
 try dsimp only
 have nME : ME ∉ [DT, L + 1 + 1 + 1, L + 1 + 1, L + 1, 332] := fun q => by
  have := Sz5.toLed.fresh_aside hME
  refine this.2 ?_
  exact (show ∀ a ∈ [DT, L + 1 + 1 + 1, L + 1 + 1, L + 1, 332], a ∈ List.map (fun q : Addr × Obj => q.1) _ from by omega_side) _ q
 have Sz6 := Sz5.snoc hk6 hME hoM (nt_cls (by show (Value.type "list") ≠ _; decide))
 clear Sz5 F5 N5
 have Sz7 : LAll prog w g L [(DT, listO tks.toArray ct), (L + 1 + 1 + 1, oC), (L + 1 + 1, oT), (L + 1, oH), (332, tabObj ps), (ME, listO am.toArray cm)] x ti (ArR rows) (fun a => a ∈ ns) Z P xd Y M Pd x2 Y2 N P2 am Ms h6 _ :=
  (Sz6.mono Part.lawAll (fun q => ⟨⟨q.1.1.1, q.1.2⟩, q.2, htM⟩) fun b q => q).drop (by omega_side)
 clear Sz6
 have F7 := Sz7.F
 have N7 := LAll.allD Sz7
 dsimp only [List.cons_append, List.nil_append] at N7
 o_steps
 (rename Fr _ _ _ _ => F8; rename News _ _ _ _ => N8; try rename Heap => hz8)
 have Sz8 := Sz7.same F8 N8 (by w_tidy)
 clear Sz7
 refine wpAny_call ?_
 refine d_start H Sz8.F.keep Sz8.phi.1.2 (.inl hv0) ?_ ?_ fun h9 tk9 hk9 => ?_
 ·exact (rmL hd1 rfl : dp + 6 < recursionLimit)
 ·exact (rmL hu rfl : un + 23 < cLine)
 have Sz9 := Sz8.stay' hk9
 clear Sz8 F8 N8
 have Fz9 := Sz9.F
 have Nz9 := Sz9.all
 dsimp only [List.cons_append, List.nil_append] at Nz9
 try dsimp only
 o_steps
 (rename Fr _ _ _ _ => F10; rename News _ _ _ _ => N10; try rename Heap => hz10)
 have S10 := Sz9.same F10 N10 (by w_tidy)
 exact hnext _ _ _ _ xd Y M Pd x2 Y2 N P2 am Ms ME cm ps rfl rfl rfl rfl rfl rfl nME S10 ⟨hU, hv0, gk, G1, ⟨Dn, G2, G3, G4⟩, ngk, ⟨ks, hks, hren⟩, hMs, hM28⟩
end
-- IterR
section
open PySem PySem.W PyProof.Rows PySem.Calls PySem.Spec
section
variable {prog : Program} {w : World} {A : Around} {E : Value -> Shared -> Prop} {s : Shared} {env : Env} {g : Heap} {Q : Flow -> Shared -> Prop} {target : Expr} {body : List Stmt}
theorem iter_oneG {o : Obj} {n : Nat} {P : Nat -> Value -> Prop} {St : Nat -> Heap -> Prop} {m : Str -> Option Value} {news : List (Addr × Obj)} (J : Nat -> (Str -> Option Value) -> List (Addr × Obj) -> Prop)
  (W : Walks prog w A s.heap.objs.size [s.heap.objs.size] [s.heap.objs.size] n P St) (hc : ∀ i h, St i h -> ∃ o, h.get? s.heap.objs.size = some o /\ o.cls ≠ .type "tuple") (ht : ∀ (it v : Value), letOwnedTupleGo target it v = pure ()) (hst : St 0 (s.heap.push o))
  (F : Fr g env.locals s.heap m) (N : News g env.locals s.heap news) (h0 : J 0 m news)
  (step : ∀ i v mz1 news1 hz1 tk dr own, i < n -> P i v -> J i mz1 news1 -> (∀ p ∈ news1, p.1 ≠ s.heap.objs.size) -> (∀ p ∈ own, p.1 = s.heap.objs.size /\ p.2.cls ≠ .type "tuple") -> (∃ o, (s.heap.objs.size, o) ∈ own) -> Fr g env.locals hz1 mz1 -> News g env.locals hz1 (news1 ++ own) ->
   wpAny (model prog w) A (assign target env v) (fun _ sz3 => wpAny (model prog w) A (execs body env) (StepG g env.locals [s.heap.objs.size] own s (J (i + 1)) Q) noE sz3) noE { s with heap := hz1, toks := tk, drawn := dr })
  (fin : ∀ mz1 news1 hz1 tk dr, J n mz1 news1 -> Fr g env.locals hz1 mz1 -> News g env.locals hz1 news1 -> Q .next { s with heap := hz1, toks := tk, drawn := dr }) :
  Chu2 (LoopG prog w A g env target body Q) (.ref s.heap.objs.size) { s with heap := s.heap.push o } := by
 have hI : ∀ b o, s.heap.get? b = some o -> b ≠ s.heap.objs.size := fun b o e => Nat.ne_of_lt (Heap.lt_size e)
 have hk2 : ∀ b o', s.heap.get? b = some o' -> (s.heap.push o).get? b = some o' := fun b o' e => Heap.get?_push_of_some _ e
 have hgfr := (fresh_off F (fresh_size s.heap))
 refine (fun _ k9 => k9 s.heap.objs.size ([s.heap.objs.size]) n _ _ m news J (WalkG.of_walks W hc ht) ?_ hgfr.2 ?_ hst (fr_stay F hk2) (news_stay N hk2) h0 ?_ ?_)
 ·simp only [List.mem_singleton]
  exact fun q => hgfr.1 q.symm
 ·intro p hp
  simp only [List.mem_singleton]
  exact hI _ _ (N p hp).1
 ·rintro i v mz1 news1 hz1 tk dr own hi hv hJ hnf hown hmem hst F1 N1
  refine x12 (hc _ _ hst) fun oI e1 c1 => ?_
  refine step i v mz1 news1 hz1 tk dr own hi hv hJ (fun p hp => by simpa using hnf p hp) (fun p hp => ?_) ⟨oI, hmem _ (by simp) _ e1 hgfr.2⟩ F1 N1
  have q : p.1 = s.heap.objs.size := by simpa using hown p hp
  have e := (N1 p (List.mem_append_right _ hp)).1
  rw [q, e1] at e; cases e
  exact ⟨q, c1⟩
 ·exact fun mz1 news1 hz1 tk dr _ hJ F1 N1 => fin mz1 news1 hz1 tk dr hJ F1 N1
theorem iter_rangeG {r : Addr} {b : Int} {n : Nat} {t u v : Tok} {m : Str -> Option Value} {news : List (Addr × Obj)} (J : Nat -> (Str -> Option Value) -> List (Addr × Obj) -> Prop) (hr : IsRange s.heap r 0 b 1 t u v) (hb : b = n) (hn : n < 1000) (hh : A.handled = none) (F : Fr g env.locals s.heap m) (N : News g env.locals s.heap news) (h0 : J 0 m news)
  (step : ∀ (i : Nat) t mz1 news1 hz1 tk dr own, i < n -> J i mz1 news1 -> (∀ p ∈ news1, p.1 ≠ s.heap.objs.size) -> (∀ p ∈ own, p.1 = s.heap.objs.size /\ p.2.cls ≠ .type "tuple") -> (∃ o, (s.heap.objs.size, o) ∈ own) -> Fr g env.locals hz1 mz1 -> News g env.locals hz1 (news1 ++ own) ->
   wpAny (model prog w) A (assign target env (.int i t)) (fun _ sz3 => wpAny (model prog w) A (execs body env) (StepG g env.locals [s.heap.objs.size] own s (J (i + 1)) Q) noE sz3) noE { s with heap := hz1, toks := tk, drawn := dr })
  (fin : ∀ mz1 news1 hz1 tk dr, J n mz1 news1 -> Fr g env.locals hz1 mz1 -> News g env.locals hz1 news1 -> Q .next { s with heap := hz1, toks := tk, drawn := dr })
  (ht : ∀ (it v : Value), letOwnedTupleGo target it v = pure ()) :
  wpAny (model prog w) A (pyIter (.ref r)) (fun it sz2 => Chu2 (LoopG prog w A g env target body Q) it sz2) E s := by
 subst hb
 have hn2 : (n : Int) < 2 ^ 62 := by lia
 refine wpAny_pyIter_range hr (small_one (by lia) (by lia) (by lia) hn2) ?_
 refine iter_oneG (n := n) J (Walks.range hh _ 0 1 n) (fun i h st => ⟨_, st, by show (Value.type "range_iterator") ≠ _; decide⟩) ht ?_ F N h0 (fun i v mz1 news1 hz1 tk dr own hi q81 => x11 q81 fun t e => ?_) fin
 ·show IsRangeIter _ _ _ _ _
  have : Builtin.Range.rangeSize 0 (n : Int) 1 = n := by
   rw [rangeSize_one]
   split <;> lia
  rw [this]
  simpa using Heap.get?_push_size _ rfl
 ·have : (0 : Int) + (i : Int) * 1 = i := by lia
  rw [this] at e
  subst e
  exact step i t mz1 news1 hz1 tk dr own hi
theorem iter_strG {xs : Str} {tx : Tok} {m : Str -> Option Value} {news : List (Addr × Obj)} (J : Nat -> (Str -> Option Value) -> List (Addr × Obj) -> Prop) (hh : A.handled = none) (F : Fr g env.locals s.heap m) (N : News g env.locals s.heap news) (h0 : J 0 m news)
  (step : ∀ i c tv mz1 news1 hz1 tk dr own, xs.cps[i]? = some c -> J i mz1 news1 -> (∀ p ∈ news1, p.1 ≠ s.heap.objs.size) -> (∀ p ∈ own, p.1 = s.heap.objs.size /\ p.2.cls ≠ .type "tuple") -> (∃ o, (s.heap.objs.size, o) ∈ own) -> Fr g env.locals hz1 mz1 -> News g env.locals hz1 (news1 ++ own) ->
   wpAny (model prog w) A (assign target env (.str ⟨#[c]⟩ tv)) (fun _ sz3 => wpAny (model prog w) A (execs body env) (StepG g env.locals [s.heap.objs.size] own s (J (i + 1)) Q) noE sz3) noE { s with heap := hz1, toks := tk, drawn := dr })
  (fin : ∀ mz1 news1 hz1 tk dr, J xs.cps.size mz1 news1 -> Fr g env.locals hz1 mz1 -> News g env.locals hz1 news1 -> Q .next { s with heap := hz1, toks := tk, drawn := dr })
  (ht : ∀ (it v : Value), letOwnedTupleGo target it v = pure ()) :
  wpAny (model prog w) A (pyIter (.str xs tx)) (fun it sz2 => Chu2 (LoopG prog w A g env target body Q) it sz2) E s := by
 have main : ∀ (ty : String) (o : Obj), o.cls = .type ty -> ty ≠ "tuple" -> Walks prog w A s.heap.objs.size [s.heap.objs.size] [s.heap.objs.size] xs.cps.size (SignAt xs) (fun i h => h.IsStrIter s.heap.objs.size ty xs tx i) -> (s.heap.push o).IsStrIter s.heap.objs.size ty xs tx 0 ->
   Chu2 (LoopG prog w A g env target body Q) (.ref s.heap.objs.size) { s with heap := s.heap.push o } := fun ty o hc hty W hst =>
  iter_oneG J W (fun i h ⟨o', e, c, _⟩ => ⟨o', e, by rw [c]; intro q; injection q with q; exact hty q⟩) ht hst F N h0 (fun i v mz1 news1 hz1 tk dr own _ ⟨c, tv, hk, e⟩ => by subst e; exact step i c tv mz1 news1 hz1 tk dr own hk) fin
 cases ha : xs.cps.all (· < 128)
 ·exact wpAny_pyIter_wide ha (main "str_iterator" _ rfl (by decide) (Walks.strWide hh _ xs tx) ⟨_, Heap.get?_push_size _ rfl, rfl, rfl⟩)
 ·exact wpAny_pyIter_ascii ha (main "str_ascii_iterator" _ rfl (by decide) (Walks.strAscii hh _ xs tx) ⟨_, Heap.get?_push_size _ rfl, rfl, rfl⟩)
end
end
-- LawQ
section
open PySem PySem.W PyProof.Rows PySem.Calls
theorem Hs.cellSet {M : Model} {A : Around} {E : Value -> Shared -> Prop} {s : Shared} {name : Str} {scope : Scope} {L a c : Addr} {cd : Value} {g sh : Heap} {m : Str -> Option Value} {tl : List (Addr × Obj)} {Φ : Heap -> Prop} {Pf : Addr -> Prop} {x : Str} {o : Obj} {vz0 : Option Value} {v : Value} {Q : Unit -> Shared -> Prop}
  (S : Hs g sh L ((c, o) :: tl) Φ Pf s.heap m) (hd : o.data = .cell vz0) (hl : c ∉ tl.map (·.1))
  (h : ∀ h' o', o'.data = .cell (some v) -> Hs g sh L ((c, o') :: tl) Φ Pf h' m -> Q () { s with heap := h' })
  (hc : (cellsFrom (L + 1) scope.names []).lookup x = some c := by rfl) (hk : scope.kind = .function := by rfl) (hx : (envOfC name scope L a cd).kindOf x = some .cell := by rfl) :
  wpAny M A (storeName (envOfC name scope L a cd) x v) Q E s := by
 have hmem := S.N (c, o) (.head _)
 refine wpAny_storeName_cell hk hx hc ⟨o, hmem.1, hd⟩ fun h' hv hs => ?_
 refine x12 hv fun o' ho' hd' => ?_
 have nt : ∀ {o : Obj} {v : Option Value}, o.data = .cell v -> ¬ TupO o := fun h ⟨_, xs, n, e⟩ => by rw [h] at e; cases e
 refine h h' o' hd' (S.headL hs ho' (nt hd') hl S.part (S.part.mv S.phi (fun b ob p e => (hs.2 b fun q => (S.as b p).1.2 (by simp [q])).trans e) fun b ob e ht => (hs.2 b fun q => ?_).trans e))
 subst q
 rw [hmem.1] at e; cases e
 exact nt hd ht
section
variable {Ar : Int -> Str -> Int -> Prop} {Fin : Int -> Prop} {M : DMod (List Int)} {N : DMod Int} {Y : DLay (List Int)} {rows : List (List Int)} {wd : List Nat} {Ms : List (List Int)}
theorem LawOk.due (o : LawOk Ar Fin M N Y rows wd Ms) (cs : List Nat) : (∃ k, runD M cs = some k /\ M.fin k) ↔ ∃ a, runP Ar 0 cs a /\ Fin a := x13 (o.dn) fun _ h1 h2 h3 => dfa_due o.hU o.good h1 h2 h3
theorem LawOk.none (o : LawOk Ar Fin M N Y rows wd Ms) (cs : List Nat) : runD M cs = none ↔ ∀ a, ¬ runP Ar 0 cs a := x13 (o.dn) fun _ h1 h2 h3 => dfa_none o.hU o.good h1 h2 h3
theorem LawOk.due2 (o : LawOk Ar Fin M N Y rows wd Ms) (cs : List Nat) : (∃ n, runD N cs = some n /\ N.fin n) ↔ ∃ a, runP Ar 0 cs a /\ Fin a := x12 (o.ren) fun _ _ r => (ren_due r).trans (o.due cs)
theorem LawOk.gk0 (o : LawOk Ar Fin M N Y rows wd Ms) : M.gk M.k0 := (o.gk _).mpr (o.good.k0 ▸ ⟨startL_dom o.hU, startL_ne o.hU⟩)
theorem LawOk.gkn (o : LawOk Ar Fin M N Y rows wd Ms) (k : List Int) (lab : Str) (k' : List Int) (_ : M.gk k) (h : M.next k lab = some k') : M.gk k' := by
 have e : ∀ l, HasL Ar k l /\ k' = nextL Ar k l -> M.gk k' := fun l q82 => x02 q82 fun h1 h2 => (o.gk _).mpr (h2 ▸ ⟨nextL_dom o.hU _ _, nextL_ne o.hU h1⟩)
 unfold DMod.next at h
 cases h1 : M.tr k lab with
 | some v => rw [h1] at h; cases h; exact e _ (o.good.tr1 _ _ _ h1).2.2
 | none => rw [h1] at h; exact e _ (o.good.df1 _ _ h)
theorem LawOk.nk0 (o : LawOk Ar Fin M N Y rows wd Ms) : N.gk N.k0 := by
 refine x12 o.ren fun ks hk R => ?_
 rw [o.ngk]
 have := R.k0.bound
 show 1 ≤ N.k0 /\ N.k0 ≤ 16
 lia
theorem LawOk.nkn (o : LawOk Ar Fin M N Y rows wd Ms) (k : Int) (lab : Str) (k' : Int) (_ : N.gk k) (h : N.next k lab = some k') : N.gk k' := by
 refine x12 o.ren fun ks hk R => ?_
 rw [o.ngk]
 suffices ∃ x, Num ks x k' by
  refine x11 this fun x hx => ?_
  have := hx.bound
  show 1 ≤ k' /\ k' ≤ 16
  lia
 unfold DMod.next at h
 cases h1 : N.tr k lab with
 | some v => rw [h1] at h; cases h; refine x23 (R.tr2 _ _ _ h1) fun _ x _ h2 _ => ?_; exact ⟨x, h2⟩
 | none => rw [h1] at h; refine x23 (R.df2 _ _ h) fun _ x _ h2 _ => ?_; exact ⟨x, h2⟩
theorem LawOk.nfin (o : LawOk Ar Fin M N Y rows wd Ms) (k : Int) (h : N.fin k) : hashInt k ≠ 4238894112 := by
 refine x12 o.ren fun ks hk R => ?_
 refine x12 (R.fin2 _ h) fun x hx _ => ?_
 have hb := hx.bound
 have : ∀ n : Nat, n < 17 -> hashInt n ≠ 4238894112 := by decide +kernel
 have e : k = (k.toNat : Int) := by lia
 rw [e]
 exact this _ (by lia)
end
theorem dom4_len {k : List Int} (h : dom4 k) : k.length ≤ 4 := by
 have : ∀ x ∈ subs4, x.length ≤ 4 := by decide
 exact this k h
variable {prog : Program} {w : World} {p : Program} {loose : List Str} {mean : ExcName -> Option Value} {mg mb : Str -> Option Value} {hz0 : Heap}
variable {s : Shared} {dp un : Nat} {fr : List Env} {gd : Option (List Code)} {R : Result -> Shared -> Prop} {x : Addr} {P : Addr -> Prop}
variable {Ar : Int -> Str -> Int -> Prop} {Fin : Int -> Prop} {M : DMod (List Int)} {N : DMod Int} {Y : DLay (List Int)} {Y2 : DLay Int} {rows : List (List Int)} {wd : List Nat} {Ms : List (List Int)}
theorem accept_tup {word : Str} {tw : Tok} (o : LawOk Ar Fin M N Y rows wd Ms) (H : Base (hd.heap_1 w.params) p loose mean mg mb hz0) (hk : ∀ b o, hz0.get? b = some o -> s.heap.get? b = some o)
  (V : DfaM (kkTup prog w dom4 hdom4) hz0 P s.heap x Y M) (hd1 : dp + 19 < recursionLimit) (hu : un + 80 < cLine)
  (hR : ∀ h' tk b, (∀ b o, s.heap.get? b = some o -> h'.get? b = some o) -> (b = true ↔ ∃ a, runP Ar 0 word.cps.toList a /\ Fin a) -> ∀ dr, R (.ok (.ret (.bool b))) { s with heap := h', toks := tk, drawn := dr }) :
  codeAny (model prog w) (A0 dp un fr gd) (.call (.ref 128) ⟨[.ref x, .str word tw], []⟩) R s := by
 refine d_accept H hk V (.inl o.v0) (fun k hf => ?_) o.gk0 o.gkn (fun k h => ((o.gk k).mp h).1) (fun {A E s k v Q} hg hv hQ => ?_) hd1 hu fun h' tk b hk hb dr => hR h' tk b hk (hb.trans (o.due _)) dr
 ·refine x12 V.S fun lf Sf hfe => ?_
  obtain ⟨_, _, _, _, _, _, _, hok, _⟩ := Sf
  exact none4 k (hok k ((hfe k).mpr hf))
 ·obtain ⟨b, rfl, hT⟩ := hv
  refine x02 ((o.gk k).mp hg) fun h1 h2 => ?_
  refine truthy_tupI hT (Nat.le_trans (dom4_len h1) (by decide)) fun tk => ?_
  have : (!k.isEmpty) = true := by cases k <;> simp at h2 ⊢
  rw [this]
  exact hQ tk
theorem accept_int {word : Str} {tw : Tok} (o : LawOk Ar Fin M N Y rows wd Ms) (H : Base (hd.heap_1 w.params) p loose mean mg mb hz0) (hk : ∀ b o, hz0.get? b = some o -> s.heap.get? b = some o)
  (V : DfaM (kkInt prog w) hz0 P s.heap x Y2 N) (hd1 : dp + 19 < recursionLimit) (hu : un + 80 < cLine)
  (hR : ∀ h' tk b, (∀ b o, s.heap.get? b = some o -> h'.get? b = some o) -> (b = true ↔ ∃ a, runP Ar 0 word.cps.toList a /\ Fin a) -> ∀ dr, R (.ok (.ret (.bool b))) { s with heap := h', toks := tk, drawn := dr }) :
  codeAny (model prog w) (A0 dp un fr gd) (.call (.ref 128) ⟨[.ref x, .str word tw], []⟩) R s := by
 refine d_accept H hk V (.inr ?_) o.nfin o.nk0 o.nkn (fun k h => trivial) (fun {A E s k v Q} hg hv hQ => ?_) hd1 hu fun h' tk b hk hb dr => hR h' tk b hk (hb.trans (o.due2 _)) dr
 ·refine x11 V.vi fun t e => ?_
  exact ⟨_, t, e⟩
 ·obtain ⟨t, rfl⟩ := hv
  rw [o.ngk] at hg
  have : 1 ≤ k /\ k ≤ 16 := hg
  have e : (k != 0) = true := by simp; lia
  exact PyProof.Rows.truthy_int (by rw [e]; exact hQ s.toks)
end
-- CompW
section
open PySem PySem.W PyProof.Rows PySem.Calls
theorem wpAny_hide {α : Type} {M : Model} {A : Around} {c : Sem α} {Q : α -> Shared -> Prop} {E : Value -> Shared -> Prop} {s : Shared} (h : ∀ G : α -> Shared -> Prop, (∀ a s, Q a s -> G a s) -> wpAny M A c G E s) : wpAny M A c Q E s := h Q fun _ _ x => x
section
variable {prog : Program} {w : World} {A : Around} {E : Value -> Shared -> Prop} {s : Shared} {env : Env} {g : Heap} {elt : Expr} {ifs : List Expr} {x y : Str} {scope : Scope} {cl : List (Str × Addr)} {r : Addr} {out : Array Value} {c : Nat} {m : Str -> Option Value}
structure Quiet (prog : Program) (w : World) (A : Around) (env : Env) (scope : Scope) (cl : List (Str × Addr)) (x : Str) (ifs : List Expr) (elt : Expr) (out : Array Value) (p : Value -> Bool) (Fv : Value -> Value -> Prop) (s : Shared) : Prop where
 test : ∀ C (i : Nat) v sz3 mz3 E', out[i]? = some v -> sz3.heap.Ns (compEnvC scope cl C env).locals mz3 -> mz3 x = some v -> (∀ b o, s.heap.get? b = some o -> sz3.heap.get? b = some o) ->
  wpAny (model prog w) A (forIn ifs true fun c r => if r = true then do let ok ← isTrue c (compEnvC scope cl C env) (eval c (compEnvC scope cl C env)); pure (ForInStep.yield ok) else pure (ForInStep.yield r))
   (fun ok sz4 => ok = p v /\ Keeps sz3 sz4) E' sz3
 item : ∀ C (i : Nat) v sz3 mz3 E', out[i]? = some v -> p v = true -> sz3.heap.Ns (compEnvC scope cl C env).locals mz3 -> mz3 x = some v -> (∀ b o, s.heap.get? b = some o -> sz3.heap.get? b = some o) ->
  wpAny (model prog w) A (eval elt (compEnvC scope cl C env)) (fun y sz4 => Fv v y /\ Keeps sz3 sz4) E' sz3
theorem Quiet.on {p : Value -> Bool} {Fv : Value -> Value -> Prop} (q : Quiet prog w A env scope cl x ifs elt out p Fv s) {o : Obj} : QuietOnC prog w A env scope cl x ifs elt [s.heap.objs.size] (fun i v => out[i]? = some v) p Fv { s with heap := s.heap.push o } := by
 have up : ∀ (sz3 : Shared), (∀ b o', b ∉ [s.heap.objs.size] -> (s.heap.push o).get? b = some o' -> sz3.heap.get? b = some o') -> ∀ b o', s.heap.get? b = some o' -> sz3.heap.get? b = some o' :=
  fun sz3 hk b o' e => hk b o' (fun hm => by rcases List.mem_cons.mp hm with rfl | hm; exact Nat.lt_irrefl _ (Heap.lt_size e); cases hm) (Heap.get?_push_of_some _ e)
 exact ⟨fun C i v sz3 mz3 E' _ hv hn hm hk _ => q.test C i v sz3 mz3 E' hv hn hm (up sz3 hk), fun C i v sz3 mz3 E' _ hv hp hn hm hk _ => q.item C i v sz3 mz3 E' hv hp hn hm (up sz3 hk)⟩
theorem comp_to {Q : Flow -> Shared -> Prop} {p : Value -> Bool} {Fv : Value -> Value -> Prop} (ho : s.heap.get? r = some (listO out c)) (hsz : out.size ≤ sizeLine) (hh : A.handled = none) (F : Fr g env.locals s.heap m)
  (q : Quiet prog w A env scope cl x ifs elt out p Fv s)
  (hQ : ∀ D h' tk (ys : Array Value) n, s.heap.get? D = none -> h'.get? D = some (listO ys n) -> Paired Fv (out.toList.filter p) ys.toList -> Fr g env.locals h' (fun z => if z = y then some (.ref D) else m z) -> (∀ b o, b ≠ env.locals -> s.heap.get? b = some o -> h'.get? b = some o) -> Q .next { s with heap := h', toks := tk }) :
  wpAny (model prog w) A (pyIter (.ref r)) (fun it sz2 => ∃ I fp wr n P St m, it = .ref I /\ Walks prog w A I fp wr n P St /\ n ≤ sizeLine /\ St 0 sz2.heap /\ (∀ b ∈ fp, b < sz2.heap.objs.size) /\
   env.locals ∉ wr /\ sz2.heap.Ns env.locals m /\ QuietOnC prog w A env scope cl x ifs elt wr P p Fv sz2 /\
   (∀ D h' tk ys (vs : List Value), sz2.heap.get? D = none -> h'.IsList D ys -> h'.PlainList D ys -> vs.length = n -> (∀ j v, vs[j]? = some v -> P j v) -> Paired Fv (vs.filter p) ys.toList ->
    h'.Ns env.locals (fun z => if z = y then some (.ref D) else m z) -> (∀ b o, b ≠ env.locals -> b ∉ wr -> sz2.heap.get? b = some o -> h'.get? b = some o) -> Q .next { sz2 with heap := h', toks := tk })) E s := by
 have hlt : r < s.heap.objs.size := Heap.lt_size ho
 have hLlt : env.locals < s.heap.objs.size := F.ns.lt
 have hl := isList_listO ho
 refine wpAny_pyIter_list hl ⟨s.heap.objs.size, [s.heap.objs.size, r], [s.heap.objs.size], out.size, _, _, m, rfl, Walks.list hh _ _ (Nat.ne_of_lt hlt) out, hsz, ⟨⟨_, Heap.get?_push_size _ rfl, rfl, rfl⟩, hl.push _⟩, ?_, ?_, ?_, q.on, ?_⟩
 ·intro b hb
  show b < (s.heap.push _).objs.size
  rw [Heap.size_push]
  simp only [List.mem_cons, List.not_mem_nil, or_false] at hb
  rcases hb with rfl | rfl
  ·exact Nat.lt_succ_self _
  ·exact Nat.lt_succ_of_lt hlt
 ·simp only [List.mem_singleton]
  exact Nat.ne_of_lt hLlt
 ·exact F.ns.push _
 ·intro D h' tk ys vs' hnew hlD hplD hlen hP hF hn hk
  have e : vs' = out.toList := list_of_places hlen hP
  subst e
  have keep : ∀ b o, b ≠ env.locals -> s.heap.get? b = some o -> h'.get? b = some o := fun b o hb e => hk b o hb (by simp only [List.mem_singleton]; exact Nat.ne_of_lt (Heap.lt_size e)) (Heap.get?_push_of_some _ e)
  refine x11 hplD fun n hD => ?_
  refine hQ D h' tk ys n ?_ hD hF ⟨hn, fun b o e => keep b o (Nat.ne_of_lt (Nat.lt_of_lt_of_le (Heap.lt_size e) F.above)) (F.keep b o e), F.above⟩ keep
  cases e : s.heap.get? D with
  | none => rfl
  | some o' => rw [Heap.get?_push_of_some _ e] at hnew; cases hnew
theorem comp_of {Q : Value -> Shared -> Prop} {p : Value -> Bool} {Fv : Value -> Value -> Prop} (ho : s.heap.get? r = some (listO out c)) (hsz : out.size ≤ sizeLine) (hh : A.handled = none)
  (q : Quiet prog w A env scope cl x ifs elt out p Fv s)
  (hQ : ∀ D h' tk (ys : Array Value) n, s.heap.get? D = none -> h'.get? D = some (listO ys n) -> Paired Fv (out.toList.filter p) ys.toList -> (∀ b o, s.heap.get? b = some o -> h'.get? b = some o) -> Q (.ref D) { s with heap := h', toks := tk }) :
  wpAny (model prog w) A (pyIter (.ref r)) (fun it sz2 => ∃ I fp wr n P St, it = .ref I /\ Walks prog w A I fp wr n P St /\ n ≤ sizeLine /\ St 0 sz2.heap /\ (∀ b ∈ fp, b < sz2.heap.objs.size) /\
   QuietOnC prog w A env scope cl x ifs elt wr P p Fv sz2 /\
   (∀ D h' tk ys (vs : List Value), sz2.heap.get? D = none -> h'.IsList D ys -> h'.PlainList D ys -> vs.length = n -> (∀ j v, vs[j]? = some v -> P j v) -> Paired Fv (vs.filter p) ys.toList ->
    (∀ b o, b ∉ wr -> sz2.heap.get? b = some o -> h'.get? b = some o) -> Q (.ref D) { sz2 with heap := h', toks := tk })) E s := by
 have hlt : r < s.heap.objs.size := Heap.lt_size ho
 have hl := isList_listO ho
 refine wpAny_pyIter_list hl ⟨s.heap.objs.size, [s.heap.objs.size, r], [s.heap.objs.size], out.size, _, _, rfl, Walks.list hh _ _ (Nat.ne_of_lt hlt) out, hsz, ⟨⟨_, Heap.get?_push_size _ rfl, rfl, rfl⟩, hl.push _⟩, ?_, q.on, ?_⟩
 ·intro b hb
  show b < (s.heap.push _).objs.size
  rw [Heap.size_push]
  simp only [List.mem_cons, List.not_mem_nil, or_false] at hb
  rcases hb with rfl | rfl
  ·exact Nat.lt_succ_self _
  ·exact Nat.lt_succ_of_lt hlt
 ·intro D h' tk ys vs' hnew hlD hplD hlen hP hF hk
  have e : vs' = out.toList := list_of_places hlen hP
  subst e
  have keep : ∀ b o, s.heap.get? b = some o -> h'.get? b = some o := fun b o e => hk b o (by simp only [List.mem_singleton]; exact Nat.ne_of_lt (Heap.lt_size e)) (Heap.get?_push_of_some _ e)
  refine x11 hplD fun n hD => ?_
  refine hQ D h' tk ys n ?_ hD hF keep
  cases e : s.heap.get? D with
  | none => rfl
  | some o' => rw [Heap.get?_push_of_some _ e] at hnew; cases hnew
end
section
variable {g sh h h' : Heap} {L D : Addr} {fr : List (Addr × Obj)} {Φ : Heap -> Prop} {Pf : Addr -> Prop} {m m' : Str -> Option Value} {o : Obj}
theorem Hs.made (S : Hs g sh L fr Φ Pf h m) (F' : Fr g L h' m') (k : ∀ b o, b ≠ L -> h.get? b = some o -> h'.get? b = some o) (hD : h.get? D = none) (ho : h'.get? D = some o) (nt : ¬ TupO o) : Hs g sh L ((D, o) :: fr) Φ Pf h' m' := by
 have as := S.toLed.fresh_aside hD
 have hg : g.get? D = none := (fresh_off S.F hD).2
 refine ⟨⟨F', fun q hq => ?_, fun q hq => (List.mem_cons.mp hq).elim (fun e => e ▸ nt) (S.nt q)⟩, S.part, S.part.mv S.phi (fun b o p e => k b o (S.as b p).1.1 e) (fun b o e c => k b o (fun q => L_not_tup S.F (q ▸ e) c) e), fun b p => ⟨⟨(S.as b p).1.1, fun q => ?_⟩, (S.as b p).2⟩⟩
 ·rcases List.mem_cons.mp hq with rfl | hq
  ·exact ⟨ho, as.1, hg⟩
  ·exact ⟨k _ _ (S.N q hq).2.1 (S.N q hq).1, (S.N q hq).2⟩
 ·rcases List.mem_cons.mp q with q | q
  ·refine x11 (S.part.al S.phi p) fun o' e => ?_
   rw [show b = D from q, hD] at e; cases e
  ·exact (S.as b p).1.2 q
end
end
-- CompH
section
open PySem PySem.W PyProof.Rows PySem.Calls
open Classical in
noncomputable def pHere (h : Heap) (j : Int) (v : Value) : Bool := decide (∃ a T, v = .ref T /\ IsTI h [a, j] T)
theorem pHere_yes {h : Heap} {a j : Int} {T : Addr} (TI : IsTI h [a, j] T) : pHere h j (.ref T) = true := by
 unfold pHere
 exact @decide_eq_true _ (Classical.propDecidable _) ⟨a, T, rfl, TI⟩
theorem pHere_no {h : Heap} {a q j : Int} {T : Addr} (TI : IsTI h [a, q] T) (e : q ≠ j) : pHere h j (.ref T) = false := by
 unfold pHere
 refine @decide_eq_false _ (Classical.propDecidable _) ?_
 rintro q82; refine x22 q82 fun a' T' e1 TI' => ?_
 cases e1
 have := TI.inj TI'
 simp only [List.cons.injEq, and_true] at this
 exact e this.2
inductive fHere (h : Heap) (v y : Value) : Prop
 | mk : ∀ a q T t, v = .ref T -> IsTI h [a, q] T -> y = .int a t -> fHere h v y
theorem here_vals {h : Heap} {j : Int} : ∀ {vs : List Value} {Ms : List (List Int)}, TupsAre h vs Ms -> (∀ x ∈ Ms, ∃ a q : Int, x = [a, q]) -> ∀ {ys : List Value}, Paired (fHere h) (vs.filter (pHere h j)) ys -> ∃ hs, IntsAre ys hs /\ hs.length ≤ Ms.length /\ ∀ a, a ∈ hs ↔ [a, j] ∈ Ms
 | _, _, .nil, _, ys, hP => by
  cases hP
  exact ⟨[], .nil, Nat.le_refl _, fun a => by simp⟩
 | _, _, .cons (b := b) (k := k) (vs := vs) (l := l) TI r, hM, ys, hP => by
  refine x21 (hM k (.head _)) fun a q q91 => ?_; subst q91
  by_cases e : q = j
  ·subst e
   have hp := pHere_yes TI
   rw [List.filter_cons, if_pos hp] at hP
   cases hP with
   | cons hf hP =>
    obtain ⟨a', q', T, t, e1, TI', rfl⟩ := hf
    cases e1
    have := TI.inj TI'
    simp only [List.cons.injEq, and_true] at this
    refine x02 this fun q93 q94 => ?_; subst q93; subst q94
    refine x13 (here_vals r (fun x hx => hM x (.tail _ hx)) hP) fun hs h1 h2 h3 => ?_
    refine ⟨a :: hs, .cons _ _ h1, Nat.succ_le_succ h2, fun c => ?_⟩
    simp only [List.mem_cons, h3, List.cons.injEq, and_true]
  ·have hp := pHere_no TI e
   rw [List.filter_cons, if_neg (by rw [hp]; simp)] at hP
   refine x13 (here_vals r (fun x hx => hM x (.tail _ hx)) hP) fun hs h1 h2 h3 => ?_
   refine ⟨hs, h1, Nat.le_succ_of_le h2, fun c => ?_⟩
   simp only [List.mem_cons, h3, List.cons.injEq, and_true]
   exact ⟨.inr, fun q => q.resolve_left fun q => e q.2.symm⟩
section
variable {prog : Program} {w : World} {A : Around} {s : Shared} {env : Env} {scope : Scope} {cl : List (Str × Addr)} {out : Array Value}
theorem quiet_here {x cn : Str} {ca : Addr} {j : Int} {tj : Tok} {Ms : List (List Int)} {p1 p2 p3 p4 p5 q1 q2 q3 : Pos} {k k' : _} (hk : scope.kind = .function) (hl : ∀ C, (compEnvC scope cl C env).kindOf x = some .local) (hc : ∀ C, (compEnvC scope cl C env).kindOf cn = some .cell) (hcl : cl.lookup cn = some ca)
  (dx : (x == ("__debug__" : Str)) = false) (dc : (cn == ("__debug__" : Str)) = false) {hp : Heap} (he : s.heap = hp) (hv : hp.IsCell ca (some (.int j tj))) (hT : TupsAre hp out.toList Ms) (hM : ∀ x ∈ Ms, ∃ a q : Int, x = [a, q]) :
  Quiet prog w A env scope cl x [.Compare (.Subscript (.Name x p1) (.Constant (.int 1) k p2) p3) [.Eq] [.Name cn p4] p5] (.Subscript (.Name x q1) (.Constant (.int 0) k' q2) q3) out (pHere hp j) (fHere hp) s where
 test := fun C i v sz3 mz3 E' hi hn hm hkp => by
  subst he
  refine x23 (hT.get i v (by simpa using hi)) fun T kx e1 q95 TI => ?_; subst q95
  refine x21 (hM kx (List.mem_of_getElem? e1)) fun a q q96 => ?_; subst q96
  refine x21 (pair_of (TI.tk fun b o e _ => hkp b o e)) fun t1 t2 hT3 => ?_
  refine wpAny_tests_one (wpAny_isTrue_Compare1 ?_)
  refine Subscript_ (wpAny_Name (wpAny_loadName_local hk (hl C) hn hm ?_) dx)
  refine wpAny_Constant_int ?_
  refine item_tupleT (l := [.int a t1, .int q t2]) (j := 1) (x := .int q t2) hT3 (by decide) (by decide) rfl rfl ?_
  refine wpAny_Name (wpAny_loadName_cell hk (hc C) hcl (hv.imp fun o e => ⟨hkp _ _ e.1, e.2⟩) ?_) dc
  refine PyProof.Rows.eq_int (wpAny_truthy_bool ⟨?_, _, _, rfl, fun _ _ e => e⟩)
  by_cases e : q = j
  ·subst e
   rw [pHere_yes TI]
   simp
  ·rw [pHere_no TI e]
   simpa using e
 item := fun C i v sz3 mz3 E' hi _ hn hm hkp => by
  subst he
  refine x23 (hT.get i v (by simpa using hi)) fun T kx e1 q97 TI => ?_; subst q97
  refine x21 (hM kx (List.mem_of_getElem? e1)) fun a q q98 => ?_; subst q98
  refine x21 (pair_of (TI.tk fun b o e _ => hkp b o e)) fun t1 t2 hT3 => ?_
  refine Subscript_ (wpAny_Name (wpAny_loadName_local hk (hl C) hn hm ?_) dx)
  refine wpAny_Constant_int ?_
  exact item_tupleT (l := [.int a t1, .int q t2]) (j := 0) (x := .int a t1) hT3 (by decide) (by decide) rfl rfl ⟨⟨a, q, T, t1, rfl, TI, rfl⟩, _, _, rfl, fun _ _ e => e⟩
noncomputable def pDue (ns : List Int) (v : Value) : Bool := match v with
 | .int k _ => ns.any (· == k)
 | _ => false
theorem quiet_due {x cn : Str} {ca DT : Addr} {hs ns : List Int} {tks : List Value} {p1 p2 p3 q1 : Pos} (hk : scope.kind = .function) (hl : ∀ C, (compEnvC scope cl C env).kindOf x = some .local) (hc : ∀ C, (compEnvC scope cl C env).kindOf cn = some .cell) (hcl : cl.lookup cn = some ca)
  (dx : (x == ("__debug__" : Str)) = false) (dc : (cn == ("__debug__" : Str)) = false) (hv : s.heap.IsCell ca (some (.ref DT))) (hL : s.heap.IsList DT tks.toArray) (hns : IntsAre tks ns) (hhs : IntsAre out.toList hs) :
  Quiet prog w A env scope cl x [.Compare (.Name x p1) [.In] [.Name cn p2] p3] (.Name x q1) out (pDue ns) (fun v y => y = v) s where
 test := fun C i v sz3 mz3 E' hi hn hm hkp => by
  refine x22 (ints_at hhs i v (by simpa using hi)) fun k t e1 q99 => ?_; subst q99
  refine wpAny_tests_one (wpAny_isTrue_Compare1 ?_)
  refine wpAny_Name (wpAny_loadName_local hk (hl C) hn hm ?_) dx
  refine wpAny_Name (wpAny_loadName_cell hk (hc C) hcl (hv.imp fun o e => ⟨hkp _ _ e.1, e.2⟩) ?_) dc
  exact in_list_ints (hL.imp fun o e => ⟨hkp _ _ e.1, e.2⟩) hns (wpAny_truthy_bool ⟨rfl, _, _, rfl, fun _ _ e => e⟩)
 item := fun C i v sz3 mz3 E' hi _ hn hm hkp => wpAny_Name (wpAny_loadName_local hk (hl C) hn hm ⟨rfl, _, _, rfl, fun _ _ e => e⟩) dx
theorem paired_eq {α : Type} {l m : List α} (x : Paired (fun v y => y = v) l m) : m = l := by
 induction x with
 | nil => rfl
 | cons e _ ih => rw [e, ih]
theorem due_vals {ns : List Int} : ∀ {vs : List Value} {hs : List Int}, IntsAre vs hs -> IntsAre (vs.filter (pDue ns)) (hs.filter fun a => ns.any (· == a))
 | _, _, .nil => .nil
 | _, _, .cons n t r => by
  have h1 : pDue ns (.int n t) = ns.any (· == n) := rfl
  cases e : ns.any (· == n) with
  | true =>
   rw [e] at h1
   rw [List.filter_cons_of_pos h1, List.filter_cons_of_pos (p := fun a => ns.any fun x => x == a) e]
   exact .cons n t (due_vals r)
  | false =>
   rw [e] at h1
   rw [List.filter_cons_of_neg (by rw [h1]; decide), List.filter_cons_of_neg (p := fun a => ns.any fun x => x == a) (by rw [e]; decide)]
   exact due_vals r
end
end
-- LawS
section
open PySem PySem.W PyProof.Rows PySem.Calls
theorem slice_take {x : Str} {j : Nat} (h : j ≤ x.cps.size) : (Txt.slice x none (some (j : Int))).cps.toList = x.cps.toList.take j := by
 have hr := PySem.StrLaws.sliced_plain x (a := 0) (b := j) (Nat.zero_le _) h
 have hl := PySem.StrLaws.strSliceIndices_plain (a := 0) (b := j) (len := x.length) (Nat.zero_le _) h
 unfold Txt.slice
 rw [PySem.StrLaws.sliceIdx_none_lo, show (0 : Int) = ((0 : Nat) : Int) from rfl]
 split
 ·rename_i q
  rw [hl] at q
  have q : j = x.length := by simpa using q
  rw [List.take_of_length_le]
  show x.cps.toList.length ≤ j
  rw [Array.length_toList, q]
  exact Nat.le_refl _
 ·simpa using hr
theorem item_at {x : Str} {i : Int} (h0 : 0 ≤ i) (h1 : i < x.cps.size) : ∃ c, x.cps.toList[i.toNat]? = some c /\ Txt.item x i = ⟨#[c]⟩ := by
 have hi : i.toNat < x.cps.size := by lia
 refine ⟨x.cps[i.toNat], ?_, ?_⟩
 ·rw [List.getElem?_eq_getElem (by simpa using hi)]; simp
 ·unfold Txt.item
  rw [charAt_at h0 h1, Array.getElem?_eq_getElem hi]
  rfl
theorem here_due {rows Ms : List (List Int)} {wd : List Nat} {hs : List Int} {j : Nat} (hj : j ≤ wd.length) (hM : ∀ q, q ∈ Ms ↔ ∃ a p, q = [a, p] /\ Met rows wd a p) (hh : ∀ a, a ∈ hs ↔ [a, (j : Int)] ∈ Ms) : ∀ a, a ∈ hs ↔ runP (ArR rows) 0 (wd.take j) a := fun a => by
 rw [hh, hM, ← met_iff hj]
 constructor
 ·rintro q84; refine x22 q84 fun a' p e m => ?_
  cases e
  exact m
 ·exact fun m => ⟨a, j, rfl, m⟩
theorem due_iff {ns hs : List Int} {p : Int -> Prop} (h : ∀ a, a ∈ hs ↔ p a) : (!decide (hs.filter (fun a => ns.any (· == a)) = [])) = true ↔ ∃ a, p a /\ a ∈ ns := by
 rw [Bool.not_eq_true', decide_eq_false_iff_not, ← ne_eq, List.ne_nil_iff_exists_cons]
 constructor
 ·rintro q85; refine x21 q85 fun a r e => ?_
  have : a ∈ hs.filter fun a => ns.any (· == a) := by rw [e]; simp
  obtain ⟨h1, h2⟩ := List.mem_filter.mp this
  refine ⟨a, (h a).mp h1, ?_⟩
  simpa using h2
 ·rintro q86; refine x12 q86 fun a h1 h2 => ?_
  have : a ∈ hs.filter fun a => ns.any (· == a) := List.mem_filter.mpr ⟨(h a).mpr h1, by simpa using h2⟩
  cases e : hs.filter fun a => ns.any (· == a) with
  | nil => rw [e] at this; cases this
  | cons b r => exact ⟨b, r, rfl⟩
theorem here_none {hs : List Int} {p : Int -> Prop} (h : ∀ a, a ∈ hs ↔ p a) : decide (hs = []) = true ↔ ∀ a, ¬ p a := by
 rw [decide_eq_true_iff, List.eq_nil_iff_forall_not_mem]
 exact ⟨fun q a m => q a ((h a).mpr m), fun q a m => q a ((h a).mp m)⟩
theorem take_pred {α : Type} (l : List α) (j : Nat) : l.take j = l.take (j - 1) ++ (l.take j).drop (j - 1) := by
 have h := List.take_append_drop (j - 1) (l.take j)
 rw [List.take_take, Nat.min_eq_left (Nat.sub_le j 1)] at h
 exact h.symm
theorem runD_pred {K : Type} {M : DMod K} {wd : List Nat} {j : Nat} (h : runD M (wd.take (j - 1)) = none) : runD M (wd.take j) = none := by
 rw [take_pred]
 exact runD_none h
end
-- LawD
section
open PySem PySem.W PyProof.Rows PySem.Calls
theorem off_LawD : True := by
 w_top off
 trivial
noncomputable abbrev LSt (prog : Program) (w : World) (g : Heap) (L : Addr) (fr : List (Addr × Obj)) (x : Addr) (ti : Tok) (Ar : Int -> Str -> Int -> Prop) (Fin : Int -> Prop) (Z : NLay) (P : Addr -> Prop) (xd : Addr) (Y : DLay (List Int)) (M : DMod (List Int)) (Pd : Addr -> Prop) (x2 : Addr) (Y2 : DLay Int) (N : DMod Int) (P2 : Addr -> Prop) (am : List Value) (Ms : List (List Int)) (o : Option (List Int)) (v : Value) (h : Heap) (m : Str -> Option Value) : Prop :=
 Hs g g L fr (fun h => ((NfaL prog w g P h x 0 ti Ar Fin Z /\ DfaM (kkTup prog w dom4 hdom4) g Pd h xd Y M) /\ DfaM (kkInt prog w) g P2 h x2 Y2 N /\ TupsAre h am Ms) /\ OptIs (kkTup prog w dom4 hdom4) h o v) (fun b => ((P b ∨ b = x ∨ b = Z.dx) ∨ (Pd b ∨ b = xd ∨ b = Y.dx)) ∨ (P2 b ∨ b = x2 ∨ b = Y2.dx)) h m
theorem jm1 {j : Nat} : ((j : Int) - 1).toNat = j - 1 := Int.toNat_sub j 1
theorem jm0 {j : Nat} (h : (0 : Int) < j) : 0 ≤ (j : Int) - 1 := by lia
theorem jml {j n : Nat} (h : j < n + 1) : (j : Int) - 1 < n := by lia
theorem jm2 {j : Nat} (h : (0 : Int) < j) : j - 1 + 1 = j := by lia
theorem jm3 {j : Nat} (h : ¬ (0 : Int) < j) : j - 1 = j := by lia
section
variable {prog : Program} {w : World} {g : Heap} {L : Addr} {fr : List (Addr × Obj)} {x xd x2 : Addr} {ti : Tok} {Ar : Int -> Str -> Int -> Prop} {Fin : Int -> Prop} {Z : NLay} {P Pd P2 : Addr -> Prop} {Y : DLay (List Int)} {M : DMod (List Int)} {Y2 : DLay Int} {N : DMod Int} {am : List Value} {Ms : List (List Int)} {h h' : Heap} {m : Str -> Option Value} {o o' : Option (List Int)} {v v' : Value}
theorem OptIs.keep {K : Type} [DecidableEq K] {kk : KK prog w K} {o : Option K} (x : OptIs kk h o v) (tk : TupKeep h h') : OptIs kk h' o v := by
 cases o with
 | none => exact x
 | some k => exact kk.dk.keep x tk
theorem Part.lawSt : Part (fun h => ((NfaL prog w g P h x 0 ti Ar Fin Z /\ DfaM (kkTup prog w dom4 hdom4) g Pd h xd Y M) /\ DfaM (kkInt prog w) g P2 h x2 Y2 N /\ TupsAre h am Ms) /\ OptIs (kkTup prog w dom4 hdom4) h o v) (fun b => ((P b ∨ b = x ∨ b = Z.dx) ∨ (Pd b ∨ b = xd ∨ b = Y.dx)) ∨ (P2 b ∨ b = x2 ∨ b = Y2.dx)) :=
 (Part.lawAll.and (Part.none fun q tk => OptIs.keep q tk)).imp fun b => by simp only [or_false]
theorem LSt.to (S : LSt prog w g L fr x ti Ar Fin Z P xd Y M Pd x2 Y2 N P2 am Ms o v h m) : LAll prog w g L fr x ti Ar Fin Z P xd Y M Pd x2 Y2 N P2 am Ms h m := Hs.mono S Part.lawAll (·.1) fun _ q => q
theorem LSt.of (S : LAll prog w g L fr x ti Ar Fin Z P xd Y M Pd x2 Y2 N P2 am Ms h m) (hv : OptIs (kkTup prog w dom4 hdom4) h o v) : LSt prog w g L fr x ti Ar Fin Z P xd Y M Pd x2 Y2 N P2 am Ms o v h m := Hs.mono S Part.lawSt (fun q => ⟨q, hv⟩) fun _ q => q
end
noncomputable def LdA (prog : Program) (w : World) (g : Heap) (L : Addr) (DT : Addr) (ME : Addr) (x : Addr) (xd : Addr) (x2 : Addr) (ti : Tok) (tks : List Value) (am : List Value) (ct : Nat) (cm : Nat) (ns : List Int) (rows : List (List Int)) (Ms : List (List Int)) (word : Str) (tw : Tok) (oT : Obj) (oH : Obj) (ps : Array Value) (Z : NLay) (P : Addr -> Prop) (Pd : Addr -> Prop) (P2 : Addr -> Prop) (Y : DLay (List Int)) (M : DMod (List Int)) (Y2 : DLay Int) (N : DMod Int) (hz1 : Heap) (wd : List Nat) (j : Nat) (m : Str -> Option Value) (G9 : List (Addr × Obj) -> Prop) : Prop := ∀ (hX : Heap) (mX : Str -> Option Value) (own : List (Addr × Obj)) (oC : Obj) (v : Value) (q0 : m (Str.ofString "word") = some (.str word tw)) (q1 : m (Str.ofString "nfa") = some (.ref x)) (q2 : m (Str.ofString "dfa") = some (.ref xd)) (q3 : m (Str.ofString "anew") = some (.ref x2)) (q4 : m (Str.ofString "met") = some (.ref ME)) (q5 : m (Str.ofString "state") = some v) (q7 : LSt prog w g L ([(L + 1 + 1 + 1, oC), (DT, listO tks.toArray ct), (L + 1 + 1, oT), (L + 1, oH), (332, tabObj ps), (ME, listO am.toArray cm)] ++ own) x ti (ArR rows) (fun a => a ∈ ns) Z P xd Y M Pd x2 Y2 N P2 am Ms (runD M (wd.take (j - 1))) v hX mX) (q8 : (hz1.objs.size ∈ own.map (·.1) ∨ hX.get? hz1.objs.size = none)) (q9 : (∃ vC, oC.data = .cell vC)) (q10 : (0 < j -> ∃ b, m (Str.ofString "due") = some (.bool b) /\ (b = true ↔ ∃ a, runP (ArR rows) 0 (wd.take (j - 1)) a /\ a ∈ ns))), G9 ([(L + 1 + 1 + 1, oC), (DT, listO tks.toArray ct), (L + 1 + 1, oT), (L + 1, oH), (332, tabObj ps), (ME, listO am.toArray cm)] ++ allOf g L (([(L + 1 + 1 + 1, oC), (DT, listO tks.toArray ct), (L + 1 + 1, oT), (L + 1, oH), (332, tabObj ps), (ME, listO am.toArray cm)] ++ own).map (·.1)) hX)
noncomputable def LdB (prog : Program) (w : World) (g : Heap) (s : Shared) (L : Addr) (DT : Addr) (ME : Addr) (x : Addr) (xd : Addr) (x2 : Addr) (ti : Tok) (tks : List Value) (am : List Value) (ct : Nat) (cm : Nat) (ns : List Int) (rows : List (List Int)) (Ms : List (List Int)) (word : Str) (tw : Tok) (oC5 : Obj) (oT : Obj) (oH : Obj) (ps : Array Value) (Z : NLay) (P : Addr -> Prop) (Pd : Addr -> Prop) (P2 : Addr -> Prop) (Y : DLay (List Int)) (M : DMod (List Int)) (Y2 : DLay Int) (N : DMod Int) (wd : List Nat) (D : Addr) (hv : List Value) (n : Nat) (db : Bool) (own : List (Addr × Obj)) (j : Nat) (G9 : Shared -> Prop) : Prop := ∀ (hX : Heap) (mX : Str -> Option Value) (tk : Nat) (dr : Drawn) (v' : Value) (q1 : mX (Str.ofString "word") = some (.str word tw)) (q2 : mX (Str.ofString "nfa") = some (.ref x)) (q3 : mX (Str.ofString "dfa") = some (.ref xd)) (q4 : mX (Str.ofString "anew") = some (.ref x2)) (q5 : mX (Str.ofString "met") = some (.ref ME)) (q6 : mX (Str.ofString "here") = some (.ref D)) (q7 : mX (Str.ofString "due") = some (.bool db)) (q8 : mX (Str.ofString "state") = some v') (q9 : LSt prog w g L ((D, listO hv.toArray n) :: (L + 1 + 1 + 1, oC5) :: ([(DT, listO tks.toArray ct), (L + 1 + 1, oT), (L + 1, oH), (332, tabObj ps), (ME, listO am.toArray cm)] ++ own)) x ti (ArR rows) (fun a => a ∈ ns) Z P xd Y M Pd x2 Y2 N P2 am Ms (runD M (wd.take j)) v' hX mX), G9 { s with heap := hX, toks := tk, drawn := dr }
variable {prog : Program} {w : World} {p : Program} {loose : List Str} {mean : ExcName -> Option Value} {mg mb : Str -> Option Value} {g : Heap}
variable {s : Shared} {dp un : Nat} {fr : List Env} {gd : Option (List Code)} {Q : Flow -> Shared -> Prop}
theorem law_d {L fa DT x xd x2 ME : Addr} {ti : Tok} {cdv : Value} {tks am : List Value} {ns : List Int} {ct cm : Nat} {rows Ms : List (List Int)} {word : Str} {tw : Tok} {oC oT oH : Obj} {h : Heap} {m : Str -> Option Value} {tk : Nat} {dr : Drawn} {Z : NLay} {P Pd P2 : Addr -> Prop} {Y : DLay (List Int)} {M : DMod (List Int)} {Y2 : DLay Int} {N : DMod Int} {ps : Array Value}
  (H : Base (hd.heap_1 w.params) p loose mean mg mb g)
  (S : LAll prog w g L [(L + 1 + 1 + 1, oC), (DT, listO tks.toArray ct), (L + 1 + 1, oT), (L + 1, oH), (332, tabObj ps), (ME, listO am.toArray cm)] x ti (ArR rows) (fun a => a ∈ ns) Z P xd Y M Pd x2 Y2 N P2 am Ms h m)
  (ok : LawOk (ArR rows) (fun a => a ∈ ns) M N Y rows word.cps.toList Ms)
  (dT : oT.data = .cell (some (.ref DT))) (hns : IntsAre tks ns) (hw6 : word.cps.size ≤ 6) (nC : ∃ vC, oC.data = .cell vC)
  (hC3 : L + 1 + 1 + 1 ∉ [DT, L + 1 + 1, L + 1, 332, ME])
  (m1 : m (Str.ofString "word") = some (.str word tw)) (m2 : m (Str.ofString "nfa") = some (.ref x)) (m3 : m (Str.ofString "dfa") = some (.ref xd)) (m4 : m (Str.ofString "anew") = some (.ref x2)) (m5 : m (Str.ofString "met") = some (.ref ME)) (m6 : m (Str.ofString "state") = some Y.v0)
  (hd1 : dp + 49 < recursionLimit) (hu : un + 200 < cLine)
  (hnext : ∀ (h' : Heap) (m' : Str -> Option Value) (tk : Nat) (dr : Drawn) (oC' : Obj) (b : Bool), m' (Str.ofString "word") = some (.str word tw) -> m' (Str.ofString "nfa") = some (.ref x) -> m' (Str.ofString "due") = some (.bool b) -> (b = true ↔ ∃ a, runP (ArR rows) 0 word.cps.toList a /\ a ∈ ns) ->
   LAll prog w g L [(L + 1 + 1 + 1, oC'), (DT, listO tks.toArray ct), (L + 1 + 1, oT), (L + 1, oH), (332, tabObj ps), (ME, listO am.toArray cm)] x ti (ArR rows) (fun a => a ∈ ns) Z P xd Y M Pd x2 Y2 N P2 am Ms h' m' ->
   wpAny (model prog w) ((A0 dp un fr gd).deeper (lawE L fa cdv)) (execs (lawB 8) (lawE L fa cdv)) Q noE { s with heap := h', toks := tk, drawn := dr }) :
  wpAny (model prog w) ((A0 dp un fr gd).deeper (lawE L fa cdv)) (execs (lawB 7) (lawE L fa cdv)) Q noE { s with heap := h, toks := tk, drawn := dr } := by
 refine x11 (⟨_, rfl⟩ : ∃ rest, lawB 8 = rest) fun rest hrest => ?_
 have hB : lawB 7 = _ :: lawB 8 := rfl
 rw [hB]
 rw [hrest] at hnext ⊢
 clear hrest hB
 have hp : lawRest = (_, _) := rfl
 have hE : lawE L fa cdv = envOfC (Str.ofString "law") _ L fa cdv := congrArg (fun q : List Stmt × Scope => envOfC (Str.ofString "law") q.2 L fa cdv) hp
 dsimp only at hE
 rw [hE] at hnext ⊢
 clear hp hE
 have X := H.X
 have T := H.T
 have F := fr_put (Str.ofString "word") (fr_put (Str.ofString "nfa") (fr_put (Str.ofString "dfa") (fr_put (Str.ofString "anew") (fr_put (Str.ofString "met") (fr_put (Str.ofString "state") S.F m6) (by exact m5)) (by exact m4)) (by exact m3)) (by exact m2)) (by exact m1)
 have N := S.all
 dsimp only [List.cons_append, List.nil_append] at N
 refine wpAny_execs_cons ?_
 refine For_g (hs := fun _ => rfl) g ?_
 ((try dsimp only); repeat' ((fail_if_success with_reducible first | refine' gDict _ | refine' gLen _ | refine' gComp _ | refine' gAsg _ | refine' gNew _ | refine' gCmp _); kl_some))
 refine PyProof.Rows.SBL.len (Int.lt_of_le_of_lt (Int.ofNat_le.mpr hw6) (by decide)) ?_
 o_steps
 (rename Fr _ _ _ _ => F1; rename News _ _ _ _ => N1; try rename Heap => hz1)
 have Sz1 := LSt.of (S.same F1 N1 (by w_tidy)) (o := some M.k0) (v := Y.v0) (S.same F1 N1 (by w_tidy)).phi.1.2.vi
 clear S N1
 generalize hwd : word.cps.toList = wd at *
 have hwl : wd.length ≤ 6 := by rw [← hwd]; simpa using hw6
 refine iter_rangeG (ht := fun _ _ => rfl) (n := word.cps.size + 1) (fun j m news => Chu (LdA prog w g L DT ME x xd x2 ti tks am ct cm ns rows Ms word tw oT oH ps Z P Pd P2 Y M Y2 N hz1 wd j m) news) (by assumption) (by show ((word.cps.size : Nat) : Int) + 1 = _; lia) (by lia) rfl F1 Sz1.all (fun _ k9 => k9 hz1 _ ([]) oC _ rfl rfl rfl rfl rfl rfl Sz1 (.inr (fresh_size _)) nC (fun q => absurd q (Nat.lt_irrefl _))) ?_ ?_
 ·clear Sz1 F1 nC
  rintro j t mz2 news2 hz4 tkz4 drz4 own hj hJ9
  refine Chu.out hJ9 ?_
  clear hJ9
  rintro hX mX own' oC v m1 m2 m3 m4 m5 m6 SX hIX q84 hdue hav hown hIo F4 N4; refine x11 q84 fun vC nC => ?_
  refine stepG_hide fun G hG => ?_
  clear hdue
  have hfo : ∀ q ∈ [(L + 1 + 1 + 1, oC), (DT, listO tks.toArray ct), (L + 1 + 1, oT), (L + 1, oH), (332, tabObj ps), (ME, listO am.toArray cm)], q.1 ≠ hz1.objs.size := fun q hq => hav q (List.mem_append_left _ hq)
  have hIo' : hz1.objs.size ∈ own.map (·.1) := x11 (hIo) fun o ho => List.mem_map.mpr ⟨_, ho, rfl⟩
  have Sz4 := SX.turn F4 N4 hown hIX
  clear N4 F4 SX hIX
  refine wpAny_assign_Name ?_
  have hCt : L + 1 + 1 + 1 ∉ ([(DT, listO tks.toArray ct), (L + 1 + 1, oT), (L + 1, oH), (332, tabObj ps), (ME, listO am.toArray cm)] ++ own).map (·.1) := by
   rw [List.map_append]
   intro q
   rcases List.mem_append.mp q with q | q
   ·exact hC3 q
   ·refine x12 (List.mem_map.mp q) fun p hp e => ?_
    exact hav (L + 1 + 1 + 1, oC) (List.mem_append_left _ (.head _)) (e ▸ (hown p hp).1)
  refine Hs.cellSet (tl := [(DT, listO tks.toArray ct), (L + 1 + 1, oT), (L + 1, oH), (332, tabObj ps), (ME, listO am.toArray cm)] ++ own) Sz4 nC hCt fun hz5 oC5 nC5 Sz5 => ?_
  clear Sz4 nC hCt
  have F5 := fr_put (Str.ofString "word") (fr_put (Str.ofString "nfa") (fr_put (Str.ofString "dfa") (fr_put (Str.ofString "anew") (fr_put (Str.ofString "met") (fr_put (Str.ofString "state") Sz5.F m6) (by exact m5)) (by exact m4)) (by exact m3)) (by exact m2)) (by exact m1)
  have N5 := LAll.allD (LSt.to Sz5)
  dsimp only [List.cons_append, List.nil_append] at N5
  ((try dsimp only); repeat' ((fail_if_success with_reducible first | refine' gDict _ | refine' gLen _ | refine' gComp _ | refine' gAsg _ | refine' gNew _ | refine' gCmp _); kl_some))
  (rename Fr _ _ _ _ => F6; rename News _ _ _ _ => N6; try rename Heap => hz6)
  have Sz6 := Sz5.same F6 N6 (by w_tidy)
  clear Sz5
  refine wpAny_hide fun G hG => ?_
  refine wpAny_Assign_ListComp_free (cl := _) (pHere hz6 j) (fHere hz6) rfl rfl (by decide) rfl (by decide) rfl rfl rfl ?_
  o_steps
  have hMsP : ∀ q ∈ Ms, ∃ a p : Int, q = [a, p] := fun q hq => x22 ((ok.met q).mp hq) fun a p e _ => ⟨a, p, e⟩
  have TM := Sz6.phi.1.2.2
  refine' comp_to (Q := G) (c := cm) (out := am.toArray) ?k1 ?k2 ?k3 ?kF ?k4 ?k5
  (case kF => exact F6)
  (case k1 => exact N6.get (by k_mem))
  (case k2 =>
   have := TM.len
   have := ok.le
   rw [sizeLine_eq]; simp; lia)
  (case k3 => rfl)
  (case k4 =>
   refine quiet_here (Ms := Ms) (x := Str.ofString "pair") (cn := Str.ofString "count") (ca := L + 1 + 1 + 1) (tj := t) ?_ ?_ ?_ ?_ (by decide) (by decide) (hp := hz6) ?_ ?_ ?_ hMsP
   ·rfl
   ·exact fun _ => rfl
   ·exact fun _ => rfl
   ·rfl
   ·rfl
   ·exact ⟨oC5, N6.get (by k_mem), nC5⟩
   ·exact TM)
  intro D hz7 tkz7 ys n hD hoD hP F7 hkz7
  refine x13 (here_vals TM hMsP hP) fun hs hys hhl hhs => ?_
  refine x11 (⟨ys.toList, by simp⟩ : ∃ hv : List Value, ys = hv.toArray) fun hv q91 => ?_; subst q91
  have Sz7 := Sz6.made F7 hkz7 hD hoD (nt_cls (by show (Value.type "list") ≠ _; decide))
  clear Sz6 F6 N6 TM hP hkz7 hD hoD
  have F7 := Sz7.F
  refine hG _ _ ?_
  clear hG G
  try dsimp only
  have N7 := LAll.allD (LSt.to Sz7)
  dsimp only [List.cons_append, List.nil_append] at N7
  ((try dsimp only); repeat' ((fail_if_success with_reducible first | refine' gDict _ | refine' gLen _ | refine' gComp _ | refine' gAsg _ | refine' gNew _ | refine' gCmp _); kl_some))
  refine wpAny_hide fun G hG => ?_
  refine wpAny_ListComp_free (cl := _) (pDue ns) (fun v y => y = v) rfl (by decide) rfl (by decide) rfl ?_
  o_steps
  refine' comp_of (Q := G) (c := n) (out := hv.toArray) ?j1 ?j2 ?j3 ?j4 ?j5
  (case j1 => exact N7.get (by k_mem))
  (case j2 =>
   have e1 := ints_len hys
   have := ok.le
   rw [sizeLine_eq]
   simp at e1 ⊢
   lia)
  (case j3 => rfl)
  (case j4 =>
   refine quiet_due (hs := hs) (tks := tks) (DT := DT) (x := Str.ofString "one") (cn := Str.ofString "taking") (ca := L + 1 + 1) ?_ ?_ ?_ ?_ (by decide) (by decide) ?_ ?_ hns ?_
   ·rfl
   ·exact fun _ => rfl
   ·exact fun _ => rfl
   ·rfl
   ·exact ⟨oT, N7.get (by k_mem), dT⟩
   ·exact isList_listO (N7.get (by k_mem))
   ·exact hys)
  intro D2 hz8 tkz8 ys2 n2 hD2 hoD2 hP2 hkz8
  obtain rfl : ys2 = ((hv.filter (pDue ns)).toArray) := by
   have := paired_eq hP2
   apply Array.toList_inj.mp
   simpa using this
  have hdv := due_vals (ns := ns) (by simpa using hys : IntsAre hv hs)
  generalize hv.filter (pDue ns) = dv at hdv hoD2
  have Sz8 := Sz7.made (fr_stay F7 hkz8) (fun b o _ e => hkz8 b o e) hD2 hoD2 (nt_cls (by show (Value.type "list") ≠ _; decide))
  clear Sz7 F7 N7 hP2 hkz8 hD2 hoD2
  refine hG _ _ ?_
  clear hG G
  try dsimp only
  have F8 := Sz8.F
  have N8 := LAll.allD (LSt.to Sz8)
  simp only [List.cons_append, List.nil_append, List.append_assoc] at N8
  ((try dsimp only); repeat' ((fail_if_success with_reducible first | refine' gDict _ | refine' gLen _ | refine' gComp _ | refine' gAsg _ | refine' gNew _ | refine' gCmp _); kl_some))
  (rename Fr _ _ _ _ => Fz9; rename News _ _ _ _ => Nz9; try rename Heap => hz9)
  refine ke_ne_ints (xs := dv) (ys := []) (ms := []) ?_ ?_ hdv .nil ?_ ?_
  ·exact isList_listO (Nz9.get (by k_mem))
  ·exact isList_listO (c := 0) (Nz9.get (by k_mem))
  ·o_norm
  have hjw : j ≤ wd.length := by rw [← hwd, Array.length_toList]; exact Nat.le_of_lt_succ hj
  have hrun := here_due hjw ok.met hhs
  have hdue := due_iff (ns := ns) hrun
  generalize (!decide (hs.filter (fun a => ns.any (· == a)) = [])) = db at hdue ⊢
  clear hdv
  o_steps
  have hts : (Txt.slice word none (some (j : Int))).cps.toList = wd.take j := by rw [slice_take (by lia), hwd]
  generalize Txt.slice word none (some (j : Int)) = text at *
  (rename Fr _ _ _ _ => F10; rename News _ _ _ _ => N10; try rename Heap => hz10)
  have S10 := Sz8.same F10 N10 (by w_tidy)
  clear Sz8
  refine wpAny_call ?_
  refine n_accept H S10.F.keep S10.phi.1.1.1.at ok.hU ?_ ?_ fun h11 tk11 dr11 b1 hk11 hb1 => ?_
  ·exact (rmL hd1 rfl : dp + 20 < recursionLimit)
  ·exact (rmL hu rfl : un + 83 < cLine)
  rw [hts, ← hdue] at hb1
  have eb : db = b1 := Bool.eq_iff_iff.mpr hb1.symm
  subst eb
  have S11 := S10.stay' hk11
  clear S10 F10 N10 hb1
  try dsimp only
  have F11 := S11.F
  have N11 := LAll.allD (LSt.to S11)
  simp only [List.cons_append, List.nil_append, List.append_assoc] at N11
  o_steps
  ·exact absurd (show (db != db) = true by assumption) (by omega_side)
  (rename Fr _ _ _ _ => F12; rename News _ _ _ _ => N12; try rename Heap => hz12)
  have S12 := S11.same F12 N12 (by w_tidy)
  clear S11
  refine wpAny_call ?_
  refine accept_tup ok H S12.F.keep S12.phi.1.1.2 ?_ ?_ fun hz13 tk13 b1 hkz13 hb1 dr13 => ?_
  ·exact (rmL hd1 rfl : dp + 20 < recursionLimit)
  ·exact (rmL hu rfl : un + 83 < cLine)
  rw [hts, ← hdue] at hb1
  have eb : db = b1 := Bool.eq_iff_iff.mpr hb1.symm
  subst eb
  have S13 := S12.stay' hkz13
  clear S12 F12 N12 hb1
  try dsimp only
  have F13 := S13.F
  have N13 := LAll.allD (LSt.to S13)
  simp only [List.cons_append, List.nil_append, List.append_assoc] at N13
  o_steps
  (rename Fr _ _ _ _ => F14; rename News _ _ _ _ => N14; try rename Heap => hz14)
  have S14 := S13.same F14 N14 (by w_tidy)
  clear S13
  refine wpAny_call ?_
  refine accept_int ok H S14.F.keep S14.phi.1.2.1 ?_ ?_ fun hz15 tkz15 b1 hkz15 hb1 drz15 => ?_
  ·exact (rmL hd1 rfl : dp + 20 < recursionLimit)
  ·exact (rmL hu rfl : un + 83 < cLine)
  rw [hts, ← hdue] at hb1
  have eb : db = b1 := Bool.eq_iff_iff.mpr hb1.symm
  subst eb
  have S15 := S14.stay' hkz15
  clear S14 F14 N14 hb1
  try dsimp only
  have F15 := S15.F
  have N15 := LAll.allD (LSt.to S15)
  simp only [List.cons_append, List.nil_append, List.append_assoc] at N15
  ((try dsimp only); repeat' ((fail_if_success with_reducible refine' gIf _); kl_some))
  refine seq_join (fun s' => Chu (LdB prog w g s L DT ME x xd x2 ti tks am ct cm ns rows Ms word tw oC5 oT oH ps Z P Pd P2 Y M Y2 N wd D hv n db own j) s') ?_ ?_
  ·cases hr : runD M (wd.take (j - 1)) with
   | none =>
    have hv0 : v = .none := by
     have := S15.phi.2
     rw [hr] at this
     exact this
    subst hv0
    o_steps
    all_goals exact ⟨rfl, fun _ k9 => k9 hz15 _ _ _ _ rfl rfl rfl rfl rfl rfl rfl rfl (LSt.of (LSt.to (S15.drop fun q hq => .tail _ hq)) (by rw [runD_pred hr]; rfl))⟩
   | some k =>
    have hv0 := S15.phi.2
    rw [hr] at hv0
    refine x12 hv0 fun kb q92 TI => ?_; subst q92
    o_steps
    ·have hj0 : (0 : Int) < j := by assumption
     refine tail_any (typeIs_str _ _ _) PySem.F.slot_str_getitem.lookup (SB.getItem (x := word) (i := (j : Int) - 1) ?_ (charAt_some (jm0 hj0) (jml hj)) ?_) (by with_unfolding_all rfl)
     ·unfold fitsSsize
      simp
      exact fit6 (jm0 hj0) (jml hj) hw6
     refine x12 (item_at (x := word) (i := (j : Int) - 1) (jm0 hj0) (jml hj)) fun cc hcc hci => ?_
     rw [hci]
     rw [hwd, jm1] at hcc
     o_steps
     (rename Fr _ _ _ _ => F16; rename News _ _ _ _ => N16; try rename Heap => hz16)
     have S16 := S15.same F16 N16 (by w_tidy)
     have TI16 := TI.tk (S15.tkS F16 N16 (by w_tidy))
     clear S15
     refine wpAny_call ?_
     refine d_next (k := k) H S16.F.keep S16.phi.1.1.2 S16.phi.1.1.2 ⟨kb, rfl, TI16⟩ ?_ ?_ fun h17 tk17 v17 hk17 hv17 => ?_
     ·exact (rmL hd1 rfl : dp + 6 < recursionLimit)
     ·exact (rmL hu rfl : un + 23 < cLine)
     have S17 := LSt.of (LSt.to (S16.stay' hk17)) (OptIs.keep hv17 fun b o e _ => hk17 b o e)
     clear S16 F16 N16 hv17
     have er := runD_succ (M := M) hcc
     rw [hr, Option.bind_some, jm2 hj0] at er
     rw [← er] at S17
     have F17 := S17.F
     have N17 := LAll.allD (LSt.to S17)
     dsimp only [List.cons_append, List.nil_append] at N17
     try dsimp only
     o_steps
     (rename Fr _ _ _ _ => F18; rename News _ _ _ _ => Nz18; try rename Heap => hz18)
     have S18 := S17.same F18 Nz18 (by w_tidy)
     exact ⟨rfl, fun _ k9 => k9 hz18 _ _ _ _ rfl rfl rfl rfl rfl rfl rfl rfl (S18.drop fun q hq => .tail _ hq)⟩
    ·have hj0 : ¬ (0 : Int) < j := by assumption
     have e0 := jm3 hj0
     rw [e0] at S15
     exact ⟨rfl, fun _ k9 => k9 hz15 _ _ _ _ rfl rfl rfl rfl rfl rfl rfl rfl (S15.drop fun q hq => .tail _ hq)⟩
  ·clear S15 F15 N15 m1 m2 m3 m4 m5 m6
   rintro s' q80; refine Chu.out q80 ?_; rintro hX mX tk dr v' m1 m2 m3 m4 m5 m7 m8 m6 S16
   have F16 := fr_put (Str.ofString "word") (fr_put (Str.ofString "nfa") (fr_put (Str.ofString "dfa") (fr_put (Str.ofString "anew") (fr_put (Str.ofString "met") (fr_put (Str.ofString "here") (fr_put (Str.ofString "due") (fr_put (Str.ofString "state") S16.F m6) (by exact m8)) (by exact m7)) (by exact m5)) (by exact m4)) (by exact m3)) (by exact m2)) (by exact m1)
   have N16 := LAll.allD (LSt.to S16)
   dsimp only [List.cons_append, List.nil_append] at N16
   have hnn := (here_none hrun).trans (ok.none (wd.take j)).symm
   have e0 : (runD M (wd.take j) = none /\ v' = .none) ∨ (runD M (wd.take j) ≠ none /\ ∃ b, v' = .ref b) := by
    have := S16.phi.2
    cases hr : runD M (wd.take j) with
    | none => rw [hr] at this; exact .inl ⟨rfl, this⟩
    | some k => rw [hr] at this; exact .inr ⟨by simp, x12 (this) fun b e _ => ⟨b, e⟩⟩
   have hfo' : ∀ q ∈ [(L + 1 + 1 + 1, oC5), (DT, listO tks.toArray ct), (L + 1 + 1, oT), (L + 1, oH), (332, tabObj ps), (ME, listO am.toArray cm)], q.1 ≠ hz1.objs.size := fun q hq => (List.mem_cons.mp hq).elim (fun e => by rw [e]; exact hfo (L + 1 + 1 + 1, oC) (.head _)) fun h => hfo q (.tail _ h)
   have hIn : ∀ a ∈ [hz1.objs.size], a ∈ own.map (·.1) := fun a ha => by simp only [List.mem_singleton] at ha; subst ha; exact hIo'
   rcases e0 with ⟨e0, rfl⟩ | ⟨e0, b0, rfl⟩
   ·have hne := hnn.mpr e0
    o_steps
    ·exact absurd (show (true != decide (hs = [])) = true by assumption) (by rw [hne]; decide)
    (rename Fr _ _ _ _ => F17; rename News _ _ _ _ => N17; try rename Heap => hz17)
    have S17 := S16.same F17 N17 (by w_tidy)
    have S18 : LSt prog w g L ([(L + 1 + 1 + 1, oC5), (DT, listO tks.toArray ct), (L + 1 + 1, oT), (L + 1, oH), (332, tabObj ps), (ME, listO am.toArray cm)] ++ own) x ti (ArR rows) (fun a => a ∈ ns) Z P xd Y M Pd x2 Y2 N P2 am Ms (runD M (wd.take j)) .none hz17 _ := S17.drop fun q hq => .tail _ hq
    exact hG hz17 _ _ _ _ S18.F S18.toLed.endN (Led.endA hIn (fun q hq e => hfo' q hq (by simpa using e))) (fun _ k9 => k9 hz17 _ own oC5 _ rfl rfl rfl rfl rfl rfl S18 (.inl hIo') (⟨_, nC5⟩) (fun _ => ⟨db, rfl, hdue⟩))
   ·have hne : decide (hs = []) = false := by
     cases e : decide (hs = []) with
     | true => exact absurd (hnn.mp e) e0
     | false => rfl
    o_steps
    ·exact absurd (show (false != decide (hs = [])) = true by assumption) (by rw [hne]; decide)
    (rename Fr _ _ _ _ => F17; rename News _ _ _ _ => N17; try rename Heap => hz17)
    have S17 := S16.same F17 N17 (by w_tidy)
    have S18 : LSt prog w g L ([(L + 1 + 1 + 1, oC5), (DT, listO tks.toArray ct), (L + 1 + 1, oT), (L + 1, oH), (332, tabObj ps), (ME, listO am.toArray cm)] ++ own) x ti (ArR rows) (fun a => a ∈ ns) Z P xd Y M Pd x2 Y2 N P2 am Ms (runD M (wd.take j)) (.ref b0) hz17 _ := S17.drop fun q hq => .tail _ hq
    exact hG hz17 _ _ _ _ S18.F S18.toLed.endN (Led.endA hIn (fun q hq e => hfo' q hq (by simpa using e))) (fun _ k9 => k9 hz17 _ own oC5 _ rfl rfl rfl rfl rfl rfl S18 (.inl hIo') (⟨_, nC5⟩) (fun _ => ⟨db, rfl, hdue⟩))
 ·clear Sz1 F1 nC
  rintro mz2 news2 hz4 tkz4 drz4 hJ9
  refine Chu.out hJ9 ?_
  clear hJ9
  rintro hX mX own' oC v m1 m2 m3 m4 m5 m6 SX hIX nC hdue F4 N4
  have Sz4 := SX.leave F4 N4
  clear N4 F4 SX hIX
  refine x12 (hdue (Nat.succ_pos _)) fun b m7 hb => ?_
  rw [List.take_of_length_le (by rw [← hwd]; simp)] at hb
  try dsimp only
  o_steps
  exact hnext _ _ _ _ oC b m1 m2 m7 hb (LSt.to Sz4)
end
-- LawF
section
open PySem PySem.W PyProof.Rows PySem.Calls
theorem off_LawF : True := by
 w_top off
 trivial
noncomputable def LfA (prog : Program) (w : World) (g : Heap) (L : Addr) (x : Addr) (xd : Addr) (x2 : Addr) (ti : Tok) (am : List Value) (ns : List Int) (rows : List (List Int)) (Ms : List (List Int)) (word : Str) (tw : Tok) (ps : Array Value) (frC : List (Addr × Obj)) (Z : NLay) (P : Addr -> Prop) (Pd : Addr -> Prop) (P2 : Addr -> Prop) (Y : DLay (List Int)) (M : DMod (List Int)) (Y2 : DLay Int) (N : DMod Int) (hz1 : Heap) (db : Bool) (j : Nat) (m : Str -> Option Value) (G9 : List (Addr × Obj) -> Prop) : Prop := ∀ (hX : Heap) (mX : Str -> Option Value) (own : List (Addr × Obj)) (tv : Str) (tt : Tok) (q0 : m (Str.ofString "word") = some (.str word tw)) (q1 : m (Str.ofString "nfa") = some (.ref x)) (q2 : m (Str.ofString "due") = some (.bool db)) (q3 : m (Str.ofString "turned") = some (.str tv tt)) (q5 : LAll prog w g L (((332, tabObj ps) :: frC) ++ own) x ti (ArR rows) (fun a => a ∈ ns) Z P xd Y M Pd x2 Y2 N P2 am Ms hX mX) (q6 : (hz1.objs.size ∈ own.map (·.1) ∨ hX.get? hz1.objs.size = none)) (q7 : tv.cps.toList = (word.cps.toList.take j).reverse), G9 (((332, tabObj ps) :: frC) ++ allOf g L ((((332, tabObj ps) :: frC) ++ own).map (·.1)) hX)
variable {prog : Program} {w : World} {p : Program} {loose : List Str} {mean : ExcName -> Option Value} {mg mb : Str -> Option Value} {g : Heap}
variable {s : Shared} {dp un : Nat} {fr : List Env} {gd : Option (List Code)} {Q : Flow -> Shared -> Prop}
theorem law_f {L fa x xd x2 : Addr} {ti : Tok} {cdv : Value} {am : List Value} {ns : List Int} {rows Ms : List (List Int)} {word : Str} {tw : Tok} {frC : List (Addr × Obj)} {h : Heap} {m : Str -> Option Value} {tk : Nat} {dr : Drawn} {Z : NLay} {P Pd P2 : Addr -> Prop} {Y : DLay (List Int)} {M : DMod (List Int)} {Y2 : DLay Int} {N : DMod Int} {ps : Array Value} {db : Bool}
  (H : Base (hd.heap_1 w.params) p loose mean mg mb g)
  (S : LAll prog w g L ((332, tabObj ps) :: frC) x ti (ArR rows) (fun a => a ∈ ns) Z P xd Y M Pd x2 Y2 N P2 am Ms h m)
  (hrows : ∀ r ∈ rows, RowOk 4 r) (hnU : ∀ a ∈ ns, U4 a) (hdue : db = true ↔ ∃ a, runP (ArR rows) 0 word.cps.toList a /\ a ∈ ns) (hw6 : word.cps.size ≤ 6)
  (m1 : m (Str.ofString "word") = some (.str word tw)) (m2 : m (Str.ofString "nfa") = some (.ref x)) (m3 : m (Str.ofString "due") = some (.bool db))
  (hd1 : dp + 49 < recursionLimit) (hu : un + 200 < cLine)
  (hQ : ∀ (h' : Heap) (m' : Str -> Option Value) (tk : Nat) (dr : Drawn), Fr g L h' m' -> (∃ ps, h'.get? 332 = some (tabObj ps)) -> Q (.ret (.bool true)) { s with heap := h', toks := tk, drawn := dr }) :
  wpAny (model prog w) ((A0 dp un fr gd).deeper (lawE L fa cdv)) (execs (lawB 8) (lawE L fa cdv)) Q noE { s with heap := h, toks := tk, drawn := dr } := by
 have hB : lawB 8 = _ :: _ :: _ :: [] := rfl
 rw [hB]
 clear hB
 have hp : lawRest = (_, _) := rfl
 have hE : lawE L fa cdv = envOfC (Str.ofString "law") _ L fa cdv := congrArg (fun q : List Stmt × Scope => envOfC (Str.ofString "law") q.2 L fa cdv) hp
 dsimp only at hE
 rw [hE]
 clear hp hE
 have X := H.X
 have T := H.T
 have F := fr_put (Str.ofString "word") (fr_put (Str.ofString "nfa") (fr_put (Str.ofString "due") S.F m3) (by exact m2)) (by exact m1)
 have N := S.all
 dsimp only [List.cons_append, List.nil_append] at N
 o_steps
 (rename Fr _ _ _ _ => F1; rename News _ _ _ _ => N1; try rename Heap => hz1)
 have Sz1 := S.same F1 N1 (by w_tidy)
 clear S N1
 refine For_g (hs := fun _ => rfl) g ?_
 o_steps
 refine iter_strG (ht := fun _ _ => rfl) (fun j m news => Chu (LfA prog w g L x xd x2 ti am ns rows Ms word tw ps frC Z P Pd P2 Y M Y2 N hz1 db j m) news) rfl F1 (news := ((332, tabObj ps) :: frC) ++ allOf g L ((((332, tabObj ps) :: frC) ++ ([] : List (Addr × Obj))).map (·.1)) hz1) (by rw [List.append_nil]; exact Sz1.all) (fun _ k9 => k9 hz1 _ ([]) _ _ rfl rfl rfl rfl (by rw [List.append_nil]; exact Sz1) (.inr (fresh_size _)) (by rw [List.take_zero]; decide +kernel)) ?_ ?_
 ·clear Sz1 F1
  rintro j cc tv0 mz2 news2 hz4 tkz4 drz4 own hj hJ9
  refine Chu.out hJ9 ?_
  clear hJ9
  rintro hX mX own' tv tt m1 m2 m3 m4 SX hIX htv hav hown hIo F4 N4
  refine stepG_hide fun G hG => ?_
  have hIo' : hz1.objs.size ∈ own.map (·.1) := x11 (hIo) fun o ho => List.mem_map.mpr ⟨_, ho, rfl⟩
  have Sz4 := SX.turn F4 N4 hown hIX
  have hfo : ∀ q ∈ (332, tabObj ps) :: frC, q.1 ≠ hz1.objs.size := fun q hq => hav q (List.mem_append_left _ hq)
  clear N4 F4 SX hIX hav
  have htl : tv.cps.size ≤ 6 := by
   have := congrArg List.length htv
   simp at this
   exact this ▸ Nat.le_trans (Nat.min_le_right _ _) (by assumption)
  refine wpAny_assign_Name ?_
  have F4 := fr_put (Str.ofString "word") (fr_put (Str.ofString "nfa") (fr_put (Str.ofString "due") (fr_put (Str.ofString "turned") Sz4.F m4) (by exact m3)) (by exact m2)) (by exact m1)
  have N4 := Sz4.all
  dsimp only [List.cons_append, List.nil_append] at N4
  o_steps
  (rename Fr _ _ _ _ => F5; rename News _ _ _ _ => N5; try rename Heap => hz5)
  have Sz5 := Sz4.same F5 N5 (by w_tidy)
  exact hG hz5 _ _ _ _ F5 Sz5.toLed.endN (Led.endA (fun a ha => by simp only [List.mem_singleton] at ha; subst ha; exact hIo') (fun q hq e => hfo q hq (by simpa using e))) (fun _ k9 => k9 hz5 _ own _ _ rfl rfl rfl rfl Sz5 (.inl hIo') (by
   rw [List.take_add_one, show word.cps.toList[j]? = some cc by rw [Array.getElem?_toList]; exact hj]
   show ((#[cc] : Array Nat) ++ tv.cps).toList = _
   simp [htv]))
 ·clear Sz1 F1
  rintro mz2 news2 hz4 tkz4 drz4 hJ9
  refine Chu.out hJ9 ?_
  clear hJ9
  rintro hX mX own' tv tt m1 m2 m3 m4 SX hIX htv F4 N4
  have Sz4 := SX.leave F4 N4
  clear N4 F4 SX hIX
  rw [List.take_of_length_le (by omega_side)] at htv
  have F4 := fr_put (Str.ofString "word") (fr_put (Str.ofString "nfa") (fr_put (Str.ofString "due") (fr_put (Str.ofString "turned") Sz4.F m4) (by exact m3)) (by exact m2)) (by exact m1)
  have N4 := LAll.allD Sz4
  dsimp only [List.cons_append, List.nil_append] at N4
  try dsimp only
  repeat' ((fail_if_success (with_reducible show wpAny _ _ (newList _) _ _ _)); kl_some)
  refine wpAny_newObj_type ?_
  try dsimp only
  have hk5 : ∀ b o, hz4.get? b = some o -> (hz4.push { cls := .type "list", data := .seq [Value.int 99 tkz4].toArray }).get? b = some o := fun b o e => Heap.get?_push_of_some _ e
  have hfl := fresh_size hz4
  have Sz5 := Hs.made Sz4 (fr_stay F4 hk5) (fun b o _ e => hk5 b o e) hfl (o := listO #[.int 99 tkz4] 0) (Heap.get?_push_size _ rfl) (nt_cls (by show (Value.type "list") ≠ _; decide))
  have hPfl : ¬ P hz4.objs.size := fun q => by
   refine x11 (Sz4.phi.1.1.pa _ q) fun o e => ?_
   rw [hfl] at e; cases e
  have hx : hz4.objs.size ≠ x := by
   rintro q
   rw [q, Sz4.phi.1.1.ox] at hfl; cases hfl
  have hdx : hz4.objs.size ≠ Z.dx := by
   rintro q
   rw [q, Sz4.phi.1.1.od] at hfl; cases hfl
  have h3 : hz4.objs.size ≠ 332 := fun q => by
   rw [q, (Sz4.N (332, tabObj ps) (.head _)).1] at hfl; cases hfl
  clear Sz4 F4 N4 hfl
  generalize hz4.push { cls := .type "list", data := .seq [Value.int 99 tkz4].toArray } = hz5 at *
  generalize hz4.objs.size = fl at *
  have F5 := Sz5.F
  have N5 := LAll.allD Sz5
  dsimp only [List.cons_append, List.nil_append] at N5
  o_steps
  have hArU := fun a lab b (q : ArR rows a lab b) => show U4 a /\ U4 b from ⟨(arr_lab hrows q).1, (arr_small hrows).arc _ _ _ q⟩
  have fl3 := Sz5.N (fl, listO #[.int 99 tkz4] 0) (.head _)
  have fl4 := Sz5.N (332, tabObj ps) (.tail _ (.head _))
  have h99 : ∀ m : List Int, m.Nodup -> (∀ a ∈ m, U4 a ∨ a = 99) -> m.length ≤ 7 := fun m hm h => Nat.le_trans (nodup_le (l2 := [0, 1, 2, 3, 99]) hm fun a ha => by
   have := h a ha
   simp only [List.mem_cons, List.not_mem_nil, or_false]
   lia) (by decide)
  refine wpAny_call ?_
  refine rev_c (U := U4) (k := 99) (c := 0) (tf := tkz4) H Sz5.F.keep Sz5.phi.1.1.at fl3.1 fl3.2.2 (only_none hPfl) hx hdx h99 hArU hnU (by decide) ?_ ?_ ?_ fun h6 tk6 dr6 xr tz Zr Pr hoff hPr V6 => ?_
  ·exact fun m hm h => labs7 hm fun l hl => (h l hl).elim (fun q81 => x21 q81 fun a b q => (arr_lab hrows q).2) fun e => ⟨4, by decide, e.trans (lab_eps.mpr rfl)⟩
  ·exact (rmL hd1 rfl : dp + 40 < recursionLimit)
  ·exact (rmL hu rfl : un + 163 < cLine)
  have F6 := fr_off Sz5.F (fun d hd => by simp only [List.mem_singleton] at hd; subst hd; exact fl3.2) hoff
  have f3 := hoff _ _ (by simpa using Ne.symm h3) fl4.1
  have a1 := fresh_off Sz5.F (hPr xr (.inr (.inl rfl)))
  have a2 := fresh_off Sz5.F (hPr Zr.dx (.inr (.inr rfl)))
  have N6 : News g L h6 [(xr, instObj 229 Zr.dx), (Zr.dx, nfaD w Zr.t Zr.f (.int 99 tz) Zr.t1 Zr.t2 Zr.t3 Zr.n), (332, tabObj ps)] := news_cons (news_cons (fun q hq => by simp only [List.mem_singleton] at hq; subst hq; exact ⟨f3, fl4.2⟩) V6.od a2.1 a2.2) V6.ox a1.1 a1.2
  try dsimp only
  clear Sz5 F5 N5
  o_steps
  (rename Fr _ _ _ _ => F7; rename News _ _ _ _ => N7; try rename Heap => hz7)
  have sU : Small (fun a => U4 a ∨ a = 99) 99 (Turned (ArR rows) (fun a => a ∈ ns) 99) := ⟨h99, .inr rfl, fun a lab b q => .inl (q.elim (fun q => (hArU _ _ _ q).1) fun q => hnU _ q.2.2)⟩
  refine wpAny_call ?_
  refine n_accept H F7.keep V6.at sU ?_ ?_ fun h8 tk8 dr8 b1 hk8 hb1 => ?_
  ·exact (rmL hd1 rfl : dp + 20 < recursionLimit)
  ·exact (rmL hu rfl : un + 83 < cLine)
  have n99 : ∀ a, U4 a -> a ≠ 99 := fun a q e => Int.ne_of_lt (Int.lt_trans q.2 (by decide)) e
  rw [htv, turned_run (Ar := ArR rows) (fun a lab b q => ⟨n99 _ (hArU _ _ _ q).1, n99 _ (hArU _ _ _ q).2⟩) (fun a q => n99 _ (hnU a q)) (by decide), ← hdue] at hb1
  have eb : db = b1 := Bool.eq_iff_iff.mpr hb1.symm
  subst eb
  have F8 := fr_stay F7 hk8
  have N8 := news_stay N7 hk8
  clear F7 N7
  try dsimp only
  o_steps
  rw [show (db == db) = true by simp]
  exact hQ _ _ _ _ F8 ⟨ps, N8.get (by k_mem)⟩
end
-- LawR
section
open PySem PySem.W PyProof.Rows PySem.Calls
variable {prog : Program} {w : World} {p : Program} {loose : List Str} {mean : ExcName -> Option Value} {mg mb : Str -> Option Value} {g : Heap}
variable {s : Shared} {dp un : Nat} {fr : List Env} {gd : Option (List Code)} {Q : Flow -> Shared -> Prop}
theorem law_rest {L fa LA DT : Addr} {cdv : Value} {arr tks : List Value} {ns : List Int} {c ct : Nat} {rows : List (List Int)} {word : Str} {tw : Tok} {oC oT oH : Obj} {h : Heap} {m : Str -> Option Value} {tk : Nat} {dr : Drawn}
  (H : Base (hd.heap_1 w.params) p loose mean mg mb g) (CH : CodeHd g 336 332)
  (S : Mine.Hs g g L ([(LA, listO arr.toArray c)] ++ [(DT, listO tks.toArray ct), (L + 1 + 1 + 1, oC), (L + 1 + 1, oT), (L + 1, oH), (332, tabObj #[])]) (fun h => TupsAre h arr rows) (fun _ => False) h m)
  (hLA : DT ≠ LA /\ L + 1 + 1 + 1 ≠ LA /\ L + 1 + 1 ≠ LA /\ L + 1 ≠ LA /\ 332 ≠ LA) (hDT : L + 1 + 1 + 1 ≠ DT /\ L + 1 + 1 ≠ DT /\ L + 1 ≠ DT /\ 332 ≠ DT) (hL : 332 < L)
  (dC : ∃ v, oC.data = .cell v) (dT : oT.data = .cell (some (.ref DT))) (hns : IntsAre tks ns) (hnU : ∀ a ∈ ns, U4 a)
  (m1 : m (Str.ofString "arcs") = some (.ref LA)) (m2 : m (Str.ofString "word") = some (.str word tw)) (hrows : ∀ r ∈ rows, RowOk 4 r) (hr8 : rows.length ≤ 8) (hw6 : word.cps.size ≤ 6)
  (hd1 : dp + 49 < recursionLimit) (hu : un + 200 < cLine)
  (hQ : ∀ (h' : Heap) (m' : Str -> Option Value) (tk : Nat) (dr : Drawn), Fr g L h' m' -> (∃ ps, h'.get? 332 = some (tabObj ps)) -> Q (.ret (.bool true)) { s with heap := h', toks := tk, drawn := dr }) :
  wpAny (model prog w) ((A0 dp un fr gd).deeper (lawE L fa cdv)) (execs (lawB 0) (lawE L fa cdv)) Q noE { s with heap := h, toks := tk, drawn := dr } := by
 have l4 : L < L + 1 /\ L + 1 < L + 1 + 1 /\ L + 1 + 1 < L + 1 + 1 + 1 := ⟨Nat.lt_succ_self _, Nat.lt_succ_self _, Nat.lt_succ_self _⟩
 have l3 : L + 1 + 1 + 1 ≠ L + 1 + 1 /\ L + 1 + 1 + 1 ≠ L + 1 /\ (332 : Nat) ≠ L + 1 + 1 + 1 /\ (332 : Nat) ≠ L + 1 + 1 /\ (332 : Nat) ≠ L + 1 :=
  ⟨Nat.ne_of_gt l4.2.2, Nat.ne_of_gt (Nat.lt_trans l4.2.1 l4.2.2), Nat.ne_of_lt (Nat.lt_trans hL (Nat.lt_trans l4.1 (Nat.lt_trans l4.2.1 l4.2.2))), Nat.ne_of_lt (Nat.lt_trans hL (Nat.lt_trans l4.1 l4.2.1)), Nat.ne_of_lt (Nat.lt_trans hL l4.1)⟩
 refine law_a H S hLA m1 m2 hrows hd1 hu fun h1 m' tk dr x ti Z P m1 m2 m3 S1 => ?_
 refine law_b H S1 ⟨Ne.symm hLA.1, hDT⟩ dT hns hnU m1 m2 m3 hd1 hu fun h2 m' tk dr m1 m2 m3 S2 => ?_
 refine law_c H CH S2 ?_ m1 m2 m3 hrows hr8 hw6 hd1 hu fun h3 m' tk dr xd Y M Pd x2 Y2 N P2 am Ms ME cm ps m1 m2 m3 m4 m5 m6 hME S3 ok => ?_
 ·simp only [List.mem_cons, List.not_mem_nil, or_false, not_or]
  exact ⟨hLA.2.2.2.2, hDT.2.2.2, l3.2.2.1, l3.2.2.2.1, l3.2.2.2.2⟩
 refine law_d (DT := DT) (ME := ME) (oC := oC) (oT := oT) (oH := oH) (tks := tks) (ct := ct) (cm := cm) (ps := ps) H (S3.drop ?_) ok dT hns hw6 dC ?_ m1 m2 m3 m4 m5 m6 hd1 hu fun h4 m' tk dr oC' b m1 m2 m3 hb S4 => ?_
 ·omega_side
 ·simp only [List.mem_cons, List.not_mem_nil, or_false, not_or] at hME ⊢
  exact ⟨hDT.1, l3.1, l3.2.1, Ne.symm l3.2.2.1, Ne.symm hME.2.1⟩
 exact law_f (ps := ps) (frC := []) H (S4.drop (by omega_side)) hrows hnU hb hw6 m1 m2 m3 hd1 hu hQ
end
-- LawG
section
open PySem PySem.W PyProof.Rows PySem.Calls
theorem off_LawG : True := by
 w_top off
 trivial
theorem ti_three {h : Heap} {a b c : Int} {t1 t2 t3 : Tok} {T : Addr} {o : Obj} {n : Nat} (e : h.get? T = some o) (hc : o.cls = .type "tuple") (d : o.data = .seq #[.int a t1, .int b t2, .int c t3] n) : IsTI h [a, b, c] T := ⟨o, _, n, e, hc, d, [t1, t2, t3], rfl, rfl⟩
noncomputable def elif1 : List Stmt := match PySem.Challenge.pw_iu0053_01.main.body[11]? with
 | some (PySem.Stmt.FunctionDef _ _ body _ _ _ _ _ _ _) => match body[5]? with
  | some (PySem.Stmt.For _ _ b _ _) => match b[1]? with
   | some (PySem.Stmt.If _ _ e _) => e
   | _ => []
  | _ => []
 | _ => []
variable {prog : Program} {w : World} {p : Program} {loose : List Str} {mean : ExcName -> Option Value} {mg mb : Str -> Option Value} {g : Heap}
variable {s : Shared} {dp un : Nat} {fr : List Env} {gd : Option (List Code)} {Q : Flow -> Shared -> Prop}
theorem law_elif {L fa LA : Addr} {cdv : Value} {sz r : Int} {tz tr : Tok} {arr : List Value} {c : Nat} {rows : List (List Int)} {rest : List (Addr × Obj)} {h : Heap} {m : Str -> Option Value} {tk : Nat} {dr : Drawn}
  (H : Base (hd.heap_1 w.params) p loose mean mg mb g)
  (S : Mine.Hs g g L ((LA, listO arr.toArray c) :: rest) (fun h => TupsAre h arr rows) (fun _ => False) h m) (hl : LA ∉ rest.map (·.1))
  (m1 : m (Str.ofString "arcs") = some (.ref LA)) (m2 : m (Str.ofString "size") = some (.int sz tz)) (m3 : m (Str.ofString "rest") = some (.int r tr)) (hsz : 1 ≤ sz /\ sz ≤ 4) (hR : ∀ r ∈ rows, RowOk sz r) (hR8 : rows.length ≤ 8)
  (hd1 : dp + 49 < recursionLimit) (hu : un + 200 < cLine)
  (hQ : ∀ (h' : Heap) (m' : Str -> Option Value) (tk : Nat) (arr' : List Value) (c' : Nat) (rows' : List (List Int)), (∀ y v, m y = some v -> m' y = some v) -> Mine.Hs g g L ((LA, listO arr'.toArray c') :: rest) (fun h => TupsAre h arr' rows') (fun _ => False) h' m' -> (∀ r ∈ rows', RowOk sz r) -> rows'.length ≤ 8 -> Q .next { s with heap := h', toks := tk, drawn := dr }) :
  wpAny (model prog w) ((A0 dp un fr gd).deeper (lawE L fa cdv)) (execs elif1 (lawE L fa cdv)) Q noE { s with heap := h, toks := tk, drawn := dr } := by
 have hB : elif1 = _ :: [] := rfl
 rw [hB]
 clear hB
 have hp : lawRest = (_, _) := rfl
 have hE : lawE L fa cdv = envOfC (Str.ofString "law") _ L fa cdv := congrArg (fun q : List Stmt × Scope => envOfC (Str.ofString "law") q.2 L fa cdv) hp
 dsimp only at hE
 rw [hE]
 clear hp hE
 have X := H.X
 have T := H.T
 have hal : arr.length = rows.length := S.phi.len
 have F := fr_put (Str.ofString "arcs") (fr_put (Str.ofString "size") (fr_put (Str.ofString "rest") S.F m3) (by exact m2)) (by exact m1)
 have hm : (fun y => if y = Str.ofString "arcs" then some (Value.ref LA) else if y = Str.ofString "size" then some (.int sz tz) else if y = Str.ofString "rest" then some (.int r tr) else m y) = m := by
  funext y
  split
  ·rename_i e; rw [e, m1]
  ·split
   ·rename_i e; rw [e, m2]
   ·split
    ·rename_i e; rw [e, m3]
    ·rfl
 have N := S.all
 dsimp only [List.cons_append, List.nil_append] at N
 o_steps
 (rename Fr _ _ _ _ => F1; rename News _ _ _ _ => N1; try rename Heap => hz1)
 refine Calls.call_len_list (items := arr.toArray) ?_ (by simp; lia) ?_
 ·exact isList_listO (N1.get (by k_mem))
 o_steps
 ·(rename Fr _ _ _ _ => Fz2; rename News _ _ _ _ => Nz2; try rename Heap => hzz2)
  have Sz2 := S.same Fz2 Nz2 (by w_tidy)
  have hlt : arr.length < 8 := by
   have : ((arr.toArray.size : Nat) : Int) < 8 := by assumption
   simp at this; lia
  have TI := ti_three (h := hzz2) (a := r.fmod sz) (b := (r.fdiv sz).fmod 5) (c := ((r.fdiv sz).fdiv 5).fmod sz) (Nz2.get (by k_mem)) rfl rfl
  clear S
  refine append_listO (l := arr) (c := c) ?_ ?_ fun h3 c3 hs3 ho3 => ?_
  ·exact (Sz2.N (LA, listO arr.toArray c) (.head _)).1
  ·rw [sizeLine_eq]; lia
  have tk3 : TupKeep hzz2 h3 := TupKeep.of_same hs3 (Sz2.N (LA, listO arr.toArray c) (.head _)).1 (by show (Value.type "list") ≠ _; decide)
  have Sz3 := Mine.Hs.headL Sz2 hs3 ho3 (nt_cls (by show (Value.type "list") ≠ _; decide)) hl Part.tups ((Sz2.phi.append (.cons TI .nil)).keep tk3)
  clear Sz2 Fz2 Nz2 TI
  have Fz3 := Sz3.F
  have Nz3 := Sz3.all
  dsimp only [List.cons_append, List.nil_append] at Nz3
  try dsimp only
  o_steps
  refine hQ _ _ _ _ _ _ ?_ Sz3 (fun q hq => ?_) (by simp; lia)
  ·exact fun y v e => (congrFun hm y).trans e
  ·rcases List.mem_append.mp hq with hq | hq
   ·exact hR q hq
   ·simp only [List.mem_singleton] at hq
    have p0 : 0 < sz := by lia
    exact ⟨_, _, _, hq, ⟨Int.fmod_nonneg_of_pos _ p0, Int.fmod_lt_of_pos _ p0⟩, ⟨Int.fmod_nonneg_of_pos _ (by decide), Int.fmod_lt_of_pos _ (by decide)⟩, Int.fmod_nonneg_of_pos _ p0, Int.fmod_lt_of_pos _ p0⟩
 ·refine hQ _ _ _ _ _ _ ?_ (S.same F1 N1 (by w_tidy)) hR hR8
  exact fun y v e => (congrFun hm y).trans e
end
-- LawW
section
open PySem PySem.W PyProof.Rows PySem.Calls
theorem pick_mem {items : Array Value} {lo hi st : Option Int} {i : Nat} {v : Value} (h : (slicePick items lo hi st)[i]? = some v) : v ∈ items.toList := by
 have := Array.mem_of_getElem? h
 unfold slicePick at this
 simp only [List.mem_toArray, List.mem_filterMap] at this
 refine x12 this fun j _ e => ?_
 exact Array.mem_toList_iff.mpr (Array.mem_of_getElem? e)
theorem abcd_at {k : Int} (h0 : 0 ≤ k) (h1 : k < 4) : Txt.item (Str.ofString "abcd") k = ⟨#[97 + k.toNat]⟩ := by
 refine x12 (nat_of (n := 4) h0 h1) fun j e hj => ?_
 subst e
 exact (by decide +kernel : ∀ j < 4, Txt.item (Str.ofString "abcd") (j : Nat) = ⟨#[97 + (j : Int).toNat]⟩) j hj
theorem word_grow {word : Str} {k : Int} (h0 : 0 ≤ k) (h1 : k < 4) (hw : word.cps.size < 6) (hs : ∀ x ∈ word.cps.toList, 97 ≤ x /\ x ≤ 100) : (word ++ Txt.item (Str.ofString "abcd") k).cps.size ≤ 6 /\ ∀ x ∈ (word ++ Txt.item (Str.ofString "abcd") k).cps.toList, 97 ≤ x /\ x ≤ 100 := by
 rw [abcd_at h0 h1]
 have e : (word ++ (⟨#[97 + k.toNat]⟩ : Str)).cps = word.cps ++ #[97 + k.toNat] := rfl
 rw [e]
 refine ⟨by simp; omega, fun x hx => ?_⟩
 rw [Array.toList_append] at hx
 rcases List.mem_append.mp hx with hx | hx
 ·exact hs x hx
 ·simp at hx
  exact hx ▸ ⟨Nat.le_add_right _ _, Nat.add_le_add_left (Nat.le_of_lt_succ ((Int.toNat_lt h0).mpr h1)) 97⟩
theorem rk4 {sz : Int} (h : 1 ≤ sz /\ sz ≤ 4) : 0 + ((sz - 0).toNat : Int) ≤ 4 := by rw [Int.zero_add, Int.sub_zero, Int.toNat_of_nonneg (Int.le_trans (by decide) h.1)]; exact h.2
theorem len63 {n m : Nat} {k : Int} (e : n = m) (h : ¬ ((63 : Nat) : Int) < m) (hk : 63 < k) : (n : Int) < k := by omega
noncomputable def LwA (g : Heap) (s1 : Shared) (xa : Addr) (LA : Addr) (rs : Addr) (rest : List (Addr × Obj)) (hz3 : Heap) (sz : Int) (j : Nat) (m : Str -> Option Value) (G9 : List (Addr × Obj) -> Prop) : Prop := ∀ (hX : Heap) (mX : Str -> Option Value) (own : List (Addr × Obj)) (arr : List Value) (c : Nat) (rows : List (List Int)) (word : Str) (tw : Tok) (q0 : m (Str.ofString "script") = some (.ref xa)) (q1 : (∃ tz, m (Str.ofString "size") = some (.int sz tz))) (q2 : m (Str.ofString "arcs") = some (.ref LA)) (q3 : m (Str.ofString "word") = some (.str word tw)) (q5 : Mine.Hs g g s1.heap.objs.size (([(LA, listO arr.toArray c)] ++ rest) ++ own) (fun h => TupsAre h arr rows) (fun _ => False) hX mX) (q6 : (∀ a ∈ [hz3.objs.size, rs], a ∈ own.map (·.1) ∨ hX.get? a = none)) (q7 : (∀ r ∈ rows, RowOk sz r)) (q8 : rows.length ≤ 8) (q9 : word.cps.size ≤ 6) (q10 : ∀ x ∈ word.cps.toList, 97 ≤ x /\ x ≤ 100), G9 (([(LA, listO arr.toArray c)] ++ rest) ++ allOf g s1.heap.objs.size ((([(LA, listO arr.toArray c)] ++ rest) ++ own).map (·.1)) hX)
theorem foldl_sub {P : Int -> Prop} [DecidablePred P] : ∀ (xs acc : List Int) (a : Int), a ∈ xs.foldl (fun l' k' => if P k' then l' ++ [k'] else l') acc -> a ∈ acc ∨ a ∈ xs
 | [], acc, a, h => .inl h
 | x :: xs, acc, a, h => by
  rw [List.foldl_cons] at h
  rcases foldl_sub xs _ a h with h | h
  ·by_cases q : P x
   ·rw [if_pos q] at h
    rcases List.mem_append.mp h with h | h
    ·exact .inl h
    ·exact .inr (by simp at h; simp [h])
   ·rw [if_neg q] at h
    exact .inl h
  ·exact .inr (.tail _ h)
theorem noE_up {α : Type} {M : Model} {A : Around} {c : Sem α} {Q : α -> Shared -> Prop} {E : Value -> Shared -> Prop} {s : Shared} (h : wpAny M A c Q noE s) : wpAny M A c Q E s := wpAny_mono h (fun _ _ h => h) fun _ _ e => e.elim
end
local macro_rules | `(tactic| k_ne) => `(tactic| (refine neN ?_; rename (_ /\ _ /\ _) /\ _ => c9; first | exact c9.1.1 | exact c9.1.2.1 | exact c9.1.2.2 | exact c9.2.1.1 | exact c9.2.1.2.1 | exact c9.2.1.2.2 | exact c9.2.2.1.1 | exact c9.2.2.1.2.1 | exact c9.2.2.1.2.2 | exact c9.2.2.2.1 | exact c9.2.2.2.2.1 | exact c9.2.2.2.2.2))
section
open PySem PySem.W PyProof.Rows PySem.Calls
theorem off_LawW : True := by
 w_top off
 trivial
theorem law_w : PySem.Challenge.rw_iu0053_01.Holds := by
 w_on
 refine holds_law (by kernel_rfl) fun said => ?_
 refine PySem.W.holds_open (r := OpenLaw.row PySem.Challenge.rw_iu0053_01) (q := vw) (loose := vl) (Xt := fun s => xlAt vw [] s && recOk (RowW.records (OpenRow.toRowW (OpenLaw.row PySem.Challenge.rw_iu0053_01))) s) (XP := XL vw []) (Yf := Hook.obs hk) (Ya := Hook.val hk) (YP := Hook.says hk) (N := 4326) left (Hook.of hk) (Hook.keeps hk) (fun s e => xl_of s (Bool.and_eq_true_iff.mp e).1) XL.keeps (by rfl) (by rfl) (by rfl) (fun s e => recFacts_of (Bool.and_eq_true_iff.mp e).2) (by rfl) (by first | assumption | decide +kernel) (by decide +kernel) ⟨rfl, rfl, rfl, rfl, rfl, by decide +kernel⟩ ?hw ?hc
 (case hw => w_witness2)
 k_go0
 rename Heap.IsList _ _ _ => lifted
 rename IntsAre _ _ => intsX
 rename CellsAre _ _ _ => cellsAre
 rename_i w s0 s1 mg mb G Y fa o pm cd doc ho hcd hgens X V T0 B TE TW xs hs hlay hL1 hr1 hl2 wl2 wl1 xa vs wl hL ra w1 r0 hr hlen _ hD hz1 tkz1 c1 c2 c3 d1 d2 d3 X' T K F N l0
 have d1 : c1.data = .cell none := d1
 have d2 : c2.data = .cell none := d2
 have d3 : c3.data = .cell none := d3
 clear cellsAre hD G Y X V T0 B TE TW hs hlay hL1 hr1 hl2 ra w1 r0 hr hcd ho
 try dsimp only
 have hS : ∀ {h : Heap} {m : Str -> Option Value}, Fr (ghostOf s1.heap [(336, 332)]) s1.heap.objs.size h m -> h.IsList xa vs.toArray := fun F => x12 (lifted) fun o e r => ⟨o, F.keep _ _ e, r⟩
 refine noE_up ?_
 refine seq_join (fun s' => Chu (fun G => ∀ (h : Heap) (tk : Nat) (m : Str -> Option Value) (ch : Obj) (hv : Int) (t : Tok), m (Str.ofString "script") = some (.ref xa) -> Fr (ghostOf s1.heap [(336, 332)]) s1.heap.objs.size h m ->
   News (ghostOf s1.heap [(336, 332)]) s1.heap.objs.size h [(s1.heap.objs.size + 1 + 1 + 1, c1), (s1.heap.objs.size + 1 + 1, c2), (s1.heap.objs.size + 1, ch), (332, tabObj #[])] -> ch.data = .cell (some (.int hv t)) -> hv = xs.head?.getD 7 -> G { s1 with heap := h, toks := tk }) s') ?_ ?_
 ·o_steps
  (rename Fr _ _ _ _ => F1; rename News _ _ _ _ => N1; try rename Heap => hz1)
  refine wpAny_truthy_list (hS F1) ?_ ?_
  ·have := ints_len intsX
   simp
   exact len63 this hlen (by decide)
  o_steps
  ·(rename Fr _ _ _ _ => Fz2; rename News _ _ _ _ => Nz2; try rename Heap => hzz2)
   have he : vs.toArray.isEmpty = true := by assumption
   have hx : xs = [] := by
    have := ints_len intsX
    have h0 : vs = [] := by simpa using he
    rw [h0] at this
    exact List.eq_nil_of_length_eq_zero this.symm
   exact ⟨rfl, fun _ k9 => k9 hzz2 _ _ _ _ _ rfl Fz2 Nz2 (by assumption) (by rw [hx]; rfl)⟩
  ·have he : vs.toArray.isEmpty = false := by assumption
   obtain ⟨v0, hv0⟩ : ∃ v0, vs[0]? = some v0 := by
    cases vs with
    | nil => simp at he
    | cons v r => exact ⟨v, rfl⟩
   obtain ⟨n0, t0, hn0, rfl⟩ := ints_at intsX 0 v0 hv0
   refine tail_any (hS F1).typeIs slot_list_getitem.lookup (wpAny_getItem_list (hS F1) (Int.le_refl _) (by decide) (by simpa using hv0) ?_) (by with_unfolding_all rfl)
   o_steps
   (rename Fr _ _ _ _ => Fz2; rename News _ _ _ _ => Nz2; try rename Heap => hzz2)
   exact ⟨rfl, fun _ k9 => k9 hzz2 _ _ _ _ _ rfl Fz2 Nz2 (by assumption) (by
    cases xs with
    | nil => simp at hn0
    | cons x r => simp at hn0 ⊢; exact hn0.symm)⟩
 ·rintro s' q80; refine Chu.out q80 ?_; intro hz1 tk m ch hv th ms F N d3 hhv
  have F := fr_put (Str.ofString "script") F ms
  o_steps
  rename IntsAre ys _ => hI8
  rename_i hsz0 hsz1 g' hys hL8 DT h4a tk4 hDT h3a oT dT LA h2a hLA h1a hzz2 Fz2 Nz2
  refine For_g (hs := fun _ => rfl) (ghostOf s1.heap [(336, 332)]) ?_
  o_steps
  generalize hout : slicePick vs.toArray (some 1) (some 19) none = out at *
  refine slice_list Fz2 Nz2 (hS Fz2) (.int 1 _) (.int 19 _) (fun hz3 Fz3 Nz3 => ?_) (by with_unfolding_all rfl) (by intro _; with_unfolding_all rfl) ?_
  rotate_left
  ·have := ints_len intsX
   rw [sizeLine_eq]
   simp
   exact Int.ofNat_le.mp (Int.le_of_lt (len63 this hlen (by decide)))
  rw [hout] at Nz3
  have hoi : ∀ (i : Nat) (v : Value), out[i]? = some v -> ∃ n t, v = .int n t := fun i v e => by
   subst hout
   have := pick_mem e
   obtain ⟨j, hj⟩ := List.mem_iff_getElem?.mp this
   obtain ⟨n, t, _, e⟩ := ints_at intsX j v (by simpa using hj)
   exact ⟨n, t, e⟩
  have hsz : (1 : Int) ≤ 1 + hv.fmod 4 /\ 1 + hv.fmod 4 ≤ 4 := by omega
  generalize 1 + hv.fmod 4 = sz at *
  have hrs : hzz2.get? (hzz2.objs.size + 1) = none := by
   unfold Heap.get?
   simp
  generalize hzz2.objs.size + 1 = rs at Nz3 ⊢ hrs
  have hos : hz3.get? rs = some (listO out 0) := Nz3.get (by k_mem)
  have rsA := fresh_off Fz2 hrs
  have hne : ∀ q ∈ [(LA, W.listOf #[] 0), (DT, LCg.lst ys), (s1.heap.objs.size + 1 + 1 + 1, c1), (s1.heap.objs.size + 1 + 1, oT), (s1.heap.objs.size + 1, ch), (332, tabObj #[])], q.1 ≠ rs := fun q hq e => by
   have := (Nz2 q hq).1
   rw [e, hrs] at this; cases this
  generalize hg : ghostOf s1.heap [(336, 332)] = g at *
  obtain ⟨rest, hrest⟩ : ∃ rest : List (Addr × Obj), rest = [(DT, LCg.lst ys), (s1.heap.objs.size + 1 + 1 + 1, c1), (s1.heap.objs.size + 1 + 1, oT), (s1.heap.objs.size + 1, ch), (332, tabObj #[])] := ⟨_, rfl⟩
  have hnt : ∀ q ∈ rest, ¬ TupO q.2 := by
   rw [hrest]
   refine allC ?_ (allC ?_ (all3 ?_ ?_ ?_))
   ·exact nt_cls (by show (Value.type "list") ≠ _; decide)
   ·exact nt_cell d1
   ·exact nt_cell dT
   ·exact nt_cell d3
   ·exact nt_cls (by first | decide | (intro e; cases e) | simp [tabObj])
  have Sz3 : Mine.Hs g g s1.heap.objs.size (([(LA, listO ([] : List Value).toArray 0)] ++ rest) ++ [(rs, listO out 0)]) (fun h => TupsAre h [] []) (fun _ => False) hz3 _ := ⟨⟨Fz3, by
   rw [hrest]
   refine allC ?_ (allC ?_ (allC ?_ (allC ?_ (all3 ?_ ?_ ?_)))) <;> exact Nz3 _ (by k_mem), fun q hq => by
   rcases List.mem_append.mp hq with hq | hq
   ·rcases List.mem_append.mp hq with hq | hq
    ·simp only [List.mem_cons, List.not_mem_nil, or_false] at hq
     subst hq
     exact nt_cls (by show (Value.type "list") ≠ _; decide)
    ·exact hnt q hq
   ·simp only [List.mem_cons, List.not_mem_nil, or_false] at hq
    subst hq
    exact nt_cls (by show (Value.type "list") ≠ _; decide)⟩, Part.tups, .nil, fun _ p => p.elim⟩
  have HB : Base (hd.heap_1 w.params) _ _ _ _ _ g := ⟨X', T⟩
  have hLArest : LA ∉ rest.map (·.1) := by
   rw [hrest]
   simp only [List.map_cons, List.map_nil, List.mem_cons, List.not_mem_nil, or_false, not_or]
   exact ⟨Nat.ne_of_gt hLA.1, Nat.ne_of_gt hLA.2.1, Nat.ne_of_gt hLA.2.2.1, Nat.ne_of_gt hLA.2.2.2.1, Nat.ne_of_gt hLA.2.2.2.2⟩
  clear Nz3 Nz2
  refine iter_listG (ht := fun _ _ => rfl) (fun j m news => Chu (LwA g s1 xa LA rs rest hz3 sz j m) news) hos (Ne.symm rsA.1) ?_ rfl Fz3 (news := ([(LA, listO ([] : List Value).toArray 0)] ++ rest) ++ allOf g s1.heap.objs.size ((([(LA, listO ([] : List Value).toArray 0)] ++ rest) ++ [(rs, listO out 0)]).map (·.1)) hz3) ?_ ?_ ?_ ?_ rsA.2
  ·intro p hp e
   rcases List.mem_append.mp hp with hp | hp
   ·refine hne p ?_ e
    rw [hrest] at hp
    exact hp
   ·exact (mem_allOf.mp hp).2.2.2 (by rw [e]; simp)
  ·exact fun p hp => Sz3.all p ((List.mem_append.mp hp).elim (fun h => List.mem_append_left _ (List.mem_append_left _ h)) (List.mem_append_right _))
  ·rintro h' hk' - F' N'
   exact (fun _ k9 => k9 hz3 _ ([(rs, listO out 0)]) ([]) 0 ([]) (Str.ofString "") _ rfl (⟨_, rfl⟩) rfl rfl Sz3 (by simp [fresh_size]) (by simp) (by simp) (by decide) (by simp [show (Str.ofString "").cps = #[] by decide +kernel]))
  ·clear Sz3
   rintro j v mz2 news2 hz4 tkz4 drz4 own hv hJ9
   refine Chu.out hJ9 ?_
   clear hJ9
   rintro hX mX own' arr c rows word tw m1 q85 m3 m4 SX hown' hR hRl hw1 hw2 hav hown hIo hro F4 N4; refine x11 q85 fun tz m2 => ?_
   refine stepG_hide fun G hG => ?_
   obtain ⟨n, t, rfl⟩ := hoi j v hv
   have Sz4 := SX.turnL F4 N4 hown hown'
   have hLAt : LA ∉ (rest ++ own).map (·.1) := by
    rw [List.map_append, List.mem_append, not_or]
    refine ⟨hLArest, fun q => ?_⟩
    obtain ⟨p, hp, e⟩ := List.mem_map.mp q
    exact hav (LA, listO arr.toArray c) (List.mem_append_left _ (.head _)) (e ▸ (hown p hp).1)
   have hin : ∀ a ∈ [hz3.objs.size, rs], a ∈ own.map (·.1) := by
    intro a ha
    simp only [List.mem_cons, List.not_mem_nil, or_false] at ha
    rcases ha with rfl | rfl
    ·obtain ⟨o, ho⟩ := hIo
     exact List.mem_map.mpr ⟨_, ho, rfl⟩
    ·obtain ⟨o, ho⟩ := hro
     exact List.mem_map.mpr ⟨_, ho, rfl⟩
   have hfo : ∀ q ∈ [(LA, listO arr.toArray c)] ++ rest, q.1 ∉ [hz3.objs.size, rs] := fun q hq => hav q (List.mem_append_left _ hq)
   clear N4 F4 SX
   have F4 := fr_put (Str.ofString "script") (fr_put (Str.ofString "size") (fr_put (Str.ofString "arcs") (fr_put (Str.ofString "word") Sz4.F m4) (by exact m3)) (by exact m2)) (by exact m1)
   have N4 := Sz4.all
   dsimp only [List.cons_append, List.nil_append] at N4
   refine wpAny_assign_Name ?_
   clear hI8 hL8 hys hDT hLA hnt hne hos rsA hrs dT d3 d2 d1 hhv
   ((try dsimp only); repeat' ((fail_if_success with_reducible refine' gIf _); (fail_if_success with_reducible first | refine' gDict _ | refine' gLen _ | refine' gComp _ | refine' gAsg _ | refine' gNew _ | refine' gCmp _); kl_some))
   (kl_some)
   ((try dsimp only); repeat' ((fail_if_success with_reducible refine' gIf _); (fail_if_success with_reducible first | refine' gDict _ | refine' gLen _ | refine' gComp _ | refine' gAsg _ | refine' gNew _ | refine' gCmp _); kl_some))
   ·refine PyProof.Rows.SBL.len (Int.lt_of_le_of_lt (Int.ofNat_le.mpr hw1) (by decide)) ?_
    ((try dsimp only); repeat' ((fail_if_success with_reducible refine' gIf _); (fail_if_success with_reducible first | refine' gDict _ | refine' gLen _ | refine' gComp _ | refine' gAsg _ | refine' gNew _ | refine' gCmp _); kl_some))
    ·o_steps
     (rename Fr _ _ _ _ => F5; rename News _ _ _ _ => N5; try rename Heap => hz5)
     have Sz5 := Sz4.same F5 N5 (by w_tidy)
     have hwl : (word.length : Int) < 6 := by assumption
     have hg := word_grow (k := (n.fdiv 3).fmod 4) (word := word) (Int.fmod_nonneg_of_pos _ (by decide)) (Int.fmod_lt_of_pos _ (by decide)) (Int.ofNat_lt.mp hwl) hw2
     refine hG hz5 _ _ _ _ F5 Sz5.toLed.endN (Led.endA hin hfo) (fun _ k9 => k9 hz5 _ own arr c rows _ _ rfl (⟨_, rfl⟩) rfl rfl Sz5 (fun a ha => .inl (hin a ha)) hR hRl hg.1 hg.2)
    ·try simp only [Bool.false_eq_true, if_false]
     (rename Fr _ _ _ _ => F5; rename News _ _ _ _ => N5; try rename Heap => hz5)
     have Sz5 := Sz4.same F5 N5 (by w_tidy)
     clear Sz4
     refine law_elif (s := s1) (dp := 1 + claimMargin) (un := 4) (fr := []) (gd := some []) (sz := sz) (r := n.fdiv 3) (LA := LA) (rows := rows) HB Sz5 hLAt rfl rfl rfl hsz hR hRl (by decide) (by decide) fun h6 m6 tk6 arr6 c6 rows6 hm6 Sz6 hR6 hRl6 => ?_
     try dsimp only
     have F6 := fr_put (Str.ofString "script") (fr_put (Str.ofString "size") (fr_put (Str.ofString "arcs") (fr_put (Str.ofString "word") Sz6.F (hm6 _ _ rfl)) (by exact hm6 _ _ rfl)) (by exact hm6 _ _ rfl)) (by exact hm6 _ _ rfl)
     o_steps
     exact hG h6 _ _ m6 _ Sz6.F (Mine.Led.endN (fr := [(LA, listO arr6.toArray c6)] ++ rest) Sz6.toLed) (Led.endA (fr := [(LA, listO arr6.toArray c6)] ++ rest) hin (fun q hq => (List.mem_cons.mp hq).elim (fun e => by rw [e]; exact hfo (LA, listO arr.toArray c) (.head _)) fun h => hfo q (.tail _ h))) (fun _ k9 => k9 h6 m6 own arr6 c6 rows6 _ _ (hm6 _ _ rfl) (⟨_, hm6 _ _ rfl⟩) (hm6 _ _ rfl) (hm6 _ _ rfl) Sz6 (fun a ha => .inl (hin a ha)) hR6 hRl6 hw1 hw2)
   ·try simp only [Bool.false_eq_true, if_false]
    (rename Fr _ _ _ _ => F5; rename News _ _ _ _ => N5; try rename Heap => hz5)
    have Sz5 := Sz4.same F5 N5 (by w_tidy)
    clear Sz4
    refine law_elif (s := s1) (dp := 1 + claimMargin) (un := 4) (fr := []) (gd := some []) (sz := sz) (r := n.fdiv 3) (LA := LA) (rows := rows) HB Sz5 hLAt rfl rfl rfl hsz hR hRl (by decide) (by decide) fun h6 m6 tk6 arr6 c6 rows6 hm6 Sz6 hR6 hRl6 => ?_
    try dsimp only
    have F6 := fr_put (Str.ofString "script") (fr_put (Str.ofString "size") (fr_put (Str.ofString "arcs") (fr_put (Str.ofString "word") Sz6.F (hm6 _ _ rfl)) (by exact hm6 _ _ rfl)) (by exact hm6 _ _ rfl)) (by exact hm6 _ _ rfl)
    o_steps
    exact hG h6 _ _ m6 _ Sz6.F (Mine.Led.endN (fr := [(LA, listO arr6.toArray c6)] ++ rest) Sz6.toLed) (Led.endA (fr := [(LA, listO arr6.toArray c6)] ++ rest) hin (fun q hq => (List.mem_cons.mp hq).elim (fun e => by rw [e]; exact hfo (LA, listO arr.toArray c) (.head _)) fun h => hfo q (.tail _ h))) (fun _ k9 => k9 h6 m6 own arr6 c6 rows6 _ _ (hm6 _ _ rfl) (⟨_, hm6 _ _ rfl⟩) (hm6 _ _ rfl) (hm6 _ _ rfl) Sz6 (fun a ha => .inl (hin a ha)) hR6 hRl6 hw1 hw2)
  ·clear Sz3
   rintro mz2 news2 hz4 tkz4 drz4 - hJ9
   refine Chu.out hJ9 ?_
   clear hJ9
   rintro hX mX own' arr c rows word tw m1 q86 m3 m4 SX hown' hR hRl hw1 hw2 F4 N4; refine x11 q86 fun tz m2 => ?_
   have Sz4 := SX.leave F4 N4
   clear N4 F4 SX hown'
   try dsimp only
   rw [hrest] at Sz4
   refine law_rest (s := s1) (dp := 1 + claimMargin) (un := 4) (fr := []) (gd := some []) HB codeHd Sz4 ?_ ?_ l0 ⟨_, d1⟩ dT hI8 ?_ m3 m4 (fun r hr => (hR r hr).le hsz.2) hRl hw1 (by decide) (by decide) fun h5 m5 tk5 dr5 F5 hps => ?_
   ·exact ⟨Nat.ne_of_lt hLA.1, Nat.ne_of_lt hLA.2.1, Nat.ne_of_lt hLA.2.2.1, Nat.ne_of_lt hLA.2.2.2.1, Nat.ne_of_lt hLA.2.2.2.2⟩
   ·exact ⟨hDT.1, hDT.2.1, hDT.2.2.1, hDT.2.2.2⟩
   ·intro a ha
    rcases foldl_sub _ _ a ha with h | h
    ·cases h
    ·have := mem_rangeKs h
     exact ⟨this.1, Int.lt_of_lt_of_le this.2 (rk4 hsz)⟩
   ·obtain ⟨ps, hps⟩ := hps
    refine ⟨?_, ⟨ps, hps⟩, trivial⟩
    try dsimp only
    refine goodW_bool F5 hgens ?_ ?_
    ·intro cls
     rfl
    ·wrow_post
end
end Mine
theorem PySem.Challenge.cw_iu0053_01_holds : PySem.Challenge.rw_iu0053_01.Holds :=
 Mine.law_w
