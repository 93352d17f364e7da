/- impl.unnode over every tree without types. -/
import Derived.Test.YtkohgndmhgcgeaaGreatDoorUn3
import Derived.Test.YtkohgndmhgcgeaaGreatDoorUn2
import Derived.Test.YtkohgndmhgcgeaaGreatDoorUn4
import Derived.Test.YtkohgndmhgcgeaaGreatDoorUn5
import Derived.Test.YtkohgndmhgcgeaaGreatDoorUn6
import Derived.Test.YtkohgndmhgcgeaaGreatDoorUnD
namespace Go.Proofs.YtkohgndmhgcgeaaGreatDoor
open Go Go.RowKit
set_option linter.unusedVariables false
set_option linter.unusedSimpArgs false

theorem unnode_any {N : Nat} {tr : Tr} (h : AstT tr) : tr.count ≤ 400 → UnH N tr := by
  induction h with
  | k2 t ht m hm l hl cl il =>
    intro hc
    simp only [Tr.count_mk, List.map_cons, List.map_nil, List.sum_cons, List.sum_nil] at hc
    exact un_k2 t m (fun x hx => il x hx (by have := cnt_mem hx; omega)) cl (by have := cnt_len l; omega)
  | k3 t ht m hm a0 h0 o0 c0 l1 h1 c1 l2 h2 c2 i0 i1 i2 =>
    intro hc
    simp only [Tr.count_mk, List.map_cons, List.map_nil, List.sum_cons, List.sum_nil] at hc
    exact un_k3 t m a0 (fun hz => i0 hz (by omega)) c0 (fun x hx => i1 x hx (by have := cnt_mem hx; omega)) c1 (by have := cnt_len l1; omega) (fun x hx => i2 x hx (by have := cnt_mem hx; omega)) c2 (by have := cnt_len l2; omega)
  | k4 a0 h0 c0 i0 =>
    intro hc
    simp only [Tr.count_mk, List.map_cons, List.map_nil, List.sum_cons, List.sum_nil] at hc
    exact un_k4 a0 (i0 (by omega)) c0
  | k5 a0 h0 o0 c0 a1 h1 c1 i0 i1 =>
    intro hc
    simp only [Tr.count_mk, List.map_cons, List.map_nil, List.sum_cons, List.sum_nil] at hc
    exact un_k5 a0 (fun hz => i0 hz (by omega)) c0 a1 (i1 (by omega)) c1
  | k6 l hl cl il =>
    intro hc
    simp only [Tr.count_mk, List.map_cons, List.map_nil, List.sum_cons, List.sum_nil] at hc
    exact un_k6 (fun x hx => il x hx (by have := cnt_mem hx; omega)) cl (by have := cnt_len l; omega)
  | k7 t ht =>
    intro hc
    simp only [Tr.count_mk, List.map_cons, List.map_nil, List.sum_cons, List.sum_nil] at hc
    exact un_k7 t
  | k8 a0 h0 c0 i0 =>
    intro hc
    simp only [Tr.count_mk, List.map_cons, List.map_nil, List.sum_cons, List.sum_nil] at hc
    exact un_k8 a0 (i0 (by omega)) c0
  | k9 a0 h0 c0 i0 =>
    intro hc
    simp only [Tr.count_mk, List.map_cons, List.map_nil, List.sum_cons, List.sum_nil] at hc
    exact un_k9 a0 (i0 (by omega)) c0
  | k10 a0 h0 c0 a1 h1 c1 i0 i1 =>
    intro hc
    simp only [Tr.count_mk, List.map_cons, List.map_nil, List.sum_cons, List.sum_nil] at hc
    exact un_k10 a0 (i0 (by omega)) c0 a1 (i1 (by omega)) c1
  | k11 a0 h0 c0 a1 h1 c1 i0 i1 =>
    intro hc
    simp only [Tr.count_mk, List.map_cons, List.map_nil, List.sum_cons, List.sum_nil] at hc
    exact un_k11 a0 (i0 (by omega)) c0 a1 (i1 (by omega)) c1
  | k12 a0 h0 c0 i0 =>
    intro hc
    simp only [Tr.count_mk, List.map_cons, List.map_nil, List.sum_cons, List.sum_nil] at hc
    exact un_k12 a0 (i0 (by omega)) c0
  | k14 a0 h0 c0 i0 =>
    intro hc
    simp only [Tr.count_mk, List.map_cons, List.map_nil, List.sum_cons, List.sum_nil] at hc
    exact un_k14 a0 (i0 (by omega)) c0
  | k15 a0 h0 c0 a1 h1 o1 c1 a2 h2 c2 i0 i1 i2 =>
    intro hc
    simp only [Tr.count_mk, List.map_cons, List.map_nil, List.sum_cons, List.sum_nil] at hc
    exact un_k15 a0 (i0 (by omega)) c0 a1 (fun hz => i1 hz (by omega)) c1 a2 (i2 (by omega)) c2
  | k16 a0 h0 c0 l hl cl i0 il =>
    intro hc
    simp only [Tr.count_mk, List.map_cons, List.map_nil, List.sum_cons, List.sum_nil] at hc
    exact un_k16 a0 (i0 (by omega)) c0 (fun x hx => il x hx (by have := cnt_mem hx; omega)) cl (by have := cnt_len l; omega)
  | k17 a0 h0 c0 a1 h1 c1 i0 i1 =>
    intro hc
    simp only [Tr.count_mk, List.map_cons, List.map_nil, List.sum_cons, List.sum_nil] at hc
    exact un_k17 a0 (i0 (by omega)) c0 a1 (i1 (by omega)) c1
  | k18 a0 h0 c0 a1 h1 c1 i0 i1 =>
    intro hc
    simp only [Tr.count_mk, List.map_cons, List.map_nil, List.sum_cons, List.sum_nil] at hc
    exact un_k18 a0 (i0 (by omega)) c0 a1 (i1 (by omega)) c1
  | k19 a0 h0 c0 a1 h1 c1 i0 i1 =>
    intro hc
    simp only [Tr.count_mk, List.map_cons, List.map_nil, List.sum_cons, List.sum_nil] at hc
    exact un_k19 a0 (i0 (by omega)) c0 a1 (i1 (by omega)) c1
  | k20 l0 h0 c0 a1 h1 c1 i0 i1 =>
    intro hc
    simp only [Tr.count_mk, List.map_cons, List.map_nil, List.sum_cons, List.sum_nil] at hc
    exact un_k20 (fun x hx => i0 x hx (by have := cnt_mem hx; omega)) c0 (by have := cnt_len l0; omega) a1 (i1 (by omega)) c1
  | k21 t ht a0 h0 c0 a1 h1 c1 i0 i1 =>
    intro hc
    simp only [Tr.count_mk, List.map_cons, List.map_nil, List.sum_cons, List.sum_nil] at hc
    exact un_k21 t ht a0 (i0 (by omega)) c0 a1 (i1 (by omega)) c1
  | k22 t ht a0 h0 c0 i0 =>
    intro hc
    simp only [Tr.count_mk, List.map_cons, List.map_nil, List.sum_cons, List.sum_nil] at hc
    exact un_k22 t ht a0 (i0 (by omega)) c0
  | k23 t ht a0 h0 c0 a1 h1 c1 i0 i1 =>
    intro hc
    simp only [Tr.count_mk, List.map_cons, List.map_nil, List.sum_cons, List.sum_nil] at hc
    exact un_k23 t ht a0 (i0 (by omega)) c0 a1 (i1 (by omega)) c1
  | k24 a0 h0 c0 a1 h1 c1 a2 h2 c2 i0 i1 i2 =>
    intro hc
    simp only [Tr.count_mk, List.map_cons, List.map_nil, List.sum_cons, List.sum_nil] at hc
    exact un_k24 a0 (i0 (by omega)) c0 a1 (i1 (by omega)) c1 a2 (i2 (by omega)) c2
  | k25 a0 h0 c0 i0 =>
    intro hc
    simp only [Tr.count_mk, List.map_cons, List.map_nil, List.sum_cons, List.sum_nil] at hc
    exact un_k25 a0 (i0 (by omega)) c0
  | k26 l hl cl il =>
    intro hc
    simp only [Tr.count_mk, List.map_cons, List.map_nil, List.sum_cons, List.sum_nil] at hc
    exact un_k26 (fun x hx => il x hx (by have := cnt_mem hx; omega)) cl (by have := cnt_len l; omega)
  | k27 l hl cl he il =>
    intro hc
    simp only [Tr.count_mk, List.map_cons, List.map_nil, List.sum_cons, List.sum_nil] at hc
    exact un_k27 (fun x hx => il x hx (by have := cnt_mem hx; omega)) cl (by have := cnt_len l; omega) he
  | k28 a0 h0 o0 c0 l hl cl i0 il =>
    intro hc
    simp only [Tr.count_mk, List.map_cons, List.map_nil, List.sum_cons, List.sum_nil] at hc
    exact un_k28 a0 (fun hz => i0 hz (by omega)) c0 (fun x hx => il x hx (by have := cnt_mem hx; omega)) cl (by have := cnt_len l; omega)
  | k29 a0 h0 c0 a1 h1 o1 c1 i0 i1 =>
    intro hc
    simp only [Tr.count_mk, List.map_cons, List.map_nil, List.sum_cons, List.sum_nil] at hc
    exact un_k29 a0 (i0 (by omega)) c0 a1 (fun hz => i1 hz (by omega)) c1
  | k30 l hl cl il =>
    intro hc
    simp only [Tr.count_mk, List.map_cons, List.map_nil, List.sum_cons, List.sum_nil] at hc
    exact un_k30 (fun x hx => il x hx (by have := cnt_mem hx; omega)) cl (by have := cnt_len l; omega)
  | k31 t ht =>
    intro hc
    simp only [Tr.count_mk, List.map_cons, List.map_nil, List.sum_cons, List.sum_nil] at hc
    exact un_k31 t
  | k32 a0 h0 c0 i0 =>
    intro hc
    simp only [Tr.count_mk, List.map_cons, List.map_nil, List.sum_cons, List.sum_nil] at hc
    exact un_k32 a0 (i0 (by omega)) c0
  | k33 t ht =>
    intro hc
    simp only [Tr.count_mk, List.map_cons, List.map_nil, List.sum_cons, List.sum_nil] at hc
    exact un_k33 t
  | k34 t ht =>
    intro hc
    simp only [Tr.count_mk, List.map_cons, List.map_nil, List.sum_cons, List.sum_nil] at hc
    exact un_k34 t
  | k35 n hn =>
    intro hc
    simp only [Tr.count_mk, List.map_cons, List.map_nil, List.sum_cons, List.sum_nil] at hc
    exact un_k35 n
  | k36 n hn =>
    intro hc
    simp only [Tr.count_mk, List.map_cons, List.map_nil, List.sum_cons, List.sum_nil] at hc
    exact un_k36 n
  | k37 n hn =>
    intro hc
    simp only [Tr.count_mk, List.map_cons, List.map_nil, List.sum_cons, List.sum_nil] at hc
    exact un_k37 n
  | k38 n hn =>
    intro hc
    simp only [Tr.count_mk, List.map_cons, List.map_nil, List.sum_cons, List.sum_nil] at hc
    exact un_k38 n
  | k39 l hl =>
    intro hc
    simp only [Tr.count_mk, List.map_cons, List.map_nil, List.sum_cons, List.sum_nil] at hc
    exact un_k39 (by have := cnt_len (l.map magT); rw [List.length_map] at this; omega)
  | k41 n hn =>
    intro hc
    simp only [Tr.count_mk, List.map_cons, List.map_nil, List.sum_cons, List.sum_nil] at hc
    exact un_k41 n
  | k42 t ht =>
    intro hc
    simp only [Tr.count_mk, List.map_cons, List.map_nil, List.sum_cons, List.sum_nil] at hc
    exact un_k42 t
  | k43  =>
    intro hc
    simp only [Tr.count_mk, List.map_cons, List.map_nil, List.sum_cons, List.sum_nil] at hc
    exact un_k43 

end Go.Proofs.YtkohgndmhgcgeaaGreatDoor
