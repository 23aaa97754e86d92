/- The plain rule's step keeps its contract. -/
import Derived.Test.YtpjifimjoinnnaaDoorFcG
import Derived.Test.YtpjifimjoinnnaaDoorFcR
import Derived.Test.YtpjifimjoinnnaaDoorFcTa
import Derived.Test.YtpjifimjoinnnaaDoorFcTb
import Derived.Test.YtpjifimjoinnnaaDoorFcTc
import Derived.Test.YtpjifimjoinnnaaDoorFcTd
import Derived.KernelRfl
set_option autoImplicit true
set_option relaxedAutoImplicit true
set_option linter.unusedVariables false
set_option linter.unusedSimpArgs false
set_option maxRecDepth 100000
set_option maxHeartbeats 4000000
namespace Go.Proofs.YtpjifimjoinnnaaDoor
open Go Go.Sy Go.RowKit
variable {E : Env}
theorem prm7_ok (E : Env) (hE : E.fn = fns) : PrmOk E (prm7 Tryd.prog) where
  ct := by intro c hc; cases hc
  mix := by kernel_rfl
  okf := okf_call
  body := okf_body
  mts := by intro x hx; cases hx
  dfr := by intro x hx; cases hx
  dfk := by intro x hx; cases hx
theorem ct7_ok : CtOk Tryd.prog fns ct7 := by
  refine ct_of_pts (p := prm7 Tryd.prog) (pts := []) (n := 1200) (c0 := enterD (prm7 Tryd.prog) ct7) (fun E hE => prm7_ok E hE) rfl (by intro q hq; cases hq) Tryd.func7 (by kernel_rfl) (by intro t ht; cases ht) (fun _ _ _ => True) (fun _ _ _ => 0) sls srun ?_ (by intro i t ht; simp at ht)
  intro E hE hF
  have hp := r7_of hF
  refine ⟨noFacts (by simp [ct7]), fun x hx => ?_⟩
  unfold sls at hx
  simp only [List.mem_cons, List.not_mem_nil, or_false] at hx
  rcases hx with rfl | rfl | rfl | rfl | rfl | rfl | rfl | rfl | rfl | rfl | rfl | rfl | rfl | rfl | rfl | rfl | rfl | rfl | rfl | rfl | rfl | rfl | rfl | rfl | rfl | rfl | rfl | rfl | rfl | rfl | rfl | rfl | rfl | rfl | rfl | rfl | rfl | rfl | rfl | rfl | rfl | rfl | rfl | rfl | rfl | rfl | rfl | rfl | rfl | rfl | rfl | rfl | rfl | rfl | rfl | rfl | rfl | rfl | rfl | rfl | rfl | rfl | rfl | rfl | rfl | rfl | rfl | rfl | rfl | rfl | rfl | rfl | rfl | rfl | rfl | rfl | rfl | rfl | rfl | rfl | rfl | rfl | rfl | rfl | rfl | rfl | rfl | rfl | rfl | rfl | rfl | rfl | rfl | rfl | rfl | rfl
  · exact g7_06 hE hp _ (.head _)
  · exact g7_00 hE hp _ (.head _)
  · exact g7_00 hE hp _ (.tail _ (.head _))
  · exact g7_03b hE hp _ (.head _)
  · exact g7_00 hE hp _ (.tail _ (.tail _ (.head _)))
  · exact g7_03b hE hp _ (.tail _ (.head _))
  · exact g7_03a hE hp _ (.head _)
  · exact g7_00 hE hp _ (.tail _ (.tail _ (.tail _ (.head _))))
  · exact g7_03b hE hp _ (.tail _ (.tail _ (.head _)))
  · exact g7_00 hE hp _ (.tail _ (.tail _ (.tail _ (.tail _ (.head _)))))
  · exact g7_03b hE hp _ (.tail _ (.tail _ (.tail _ (.head _))))
  · exact g7_03a hE hp _ (.tail _ (.head _))
  · exact g7_00 hE hp _ (.tail _ (.tail _ (.tail _ (.tail _ (.tail _ (.head _))))))
  · exact g7_00 hE hp _ (.tail _ (.tail _ (.tail _ (.tail _ (.tail _ (.tail _ (.head _)))))))
  · exact g7_03b hE hp _ (.tail _ (.tail _ (.tail _ (.tail _ (.head _)))))
  · exact g7_00 hE hp _ (.tail _ (.tail _ (.tail _ (.tail _ (.tail _ (.tail _ (.tail _ (.head _))))))))
  · exact g7_03b hE hp _ (.tail _ (.tail _ (.tail _ (.tail _ (.tail _ (.head _))))))
  · exact g7_03a hE hp _ (.tail _ (.tail _ (.head _)))
  · exact g7_00 hE hp _ (.tail _ (.tail _ (.tail _ (.tail _ (.tail _ (.tail _ (.tail _ (.tail _ (.head _)))))))))
  · exact g7_03b hE hp _ (.tail _ (.tail _ (.tail _ (.tail _ (.tail _ (.tail _ (.head _)))))))
  · exact g7_00 hE hp _ (.tail _ (.tail _ (.tail _ (.tail _ (.tail _ (.tail _ (.tail _ (.tail _ (.tail _ (.head _))))))))))
  · exact g7_03b hE hp _ (.tail _ (.tail _ (.tail _ (.tail _ (.tail _ (.tail _ (.tail _ (.head _))))))))
  · exact g7_03a hE hp _ (.tail _ (.tail _ (.tail _ (.head _))))
  · exact g7_06 hE hp _ (.tail _ (.head _))
  · exact g7_06 hE hp _ (.tail _ (.tail _ (.head _)))
  · exact g7_00 hE hp _ (.tail _ (.tail _ (.tail _ (.tail _ (.tail _ (.tail _ (.tail _ (.tail _ (.tail _ (.tail _ (.head _)))))))))))
  · exact g7_00 hE hp _ (.tail _ (.tail _ (.tail _ (.tail _ (.tail _ (.tail _ (.tail _ (.tail _ (.tail _ (.tail _ (.tail _ (.head _))))))))))))
  · exact g7_03b hE hp _ (.tail _ (.tail _ (.tail _ (.tail _ (.tail _ (.tail _ (.tail _ (.tail _ (.head _)))))))))
  · exact g7_00 hE hp _ (.tail _ (.tail _ (.tail _ (.tail _ (.tail _ (.tail _ (.tail _ (.tail _ (.tail _ (.tail _ (.tail _ (.tail _ (.head _)))))))))))))
  · exact g7_03b hE hp _ (.tail _ (.tail _ (.tail _ (.tail _ (.tail _ (.tail _ (.tail _ (.tail _ (.tail _ (.head _))))))))))
  · exact g7_03a hE hp _ (.tail _ (.tail _ (.tail _ (.tail _ (.head _)))))
  · exact g7_00 hE hp _ (.tail _ (.tail _ (.tail _ (.tail _ (.tail _ (.tail _ (.tail _ (.tail _ (.tail _ (.tail _ (.tail _ (.tail _ (.tail _ (.head _))))))))))))))
  · exact g7_03b hE hp _ (.tail _ (.tail _ (.tail _ (.tail _ (.tail _ (.tail _ (.tail _ (.tail _ (.tail _ (.tail _ (.head _)))))))))))
  · exact g7_00 hE hp _ (.tail _ (.tail _ (.tail _ (.tail _ (.tail _ (.tail _ (.tail _ (.tail _ (.tail _ (.tail _ (.tail _ (.tail _ (.tail _ (.tail _ (.head _)))))))))))))))
  · exact g7_03b hE hp _ (.tail _ (.tail _ (.tail _ (.tail _ (.tail _ (.tail _ (.tail _ (.tail _ (.tail _ (.tail _ (.tail _ (.head _))))))))))))
  · exact g7_03a hE hp _ (.tail _ (.tail _ (.tail _ (.tail _ (.tail _ (.head _))))))
  · exact g7_06 hE hp _ (.tail _ (.tail _ (.tail _ (.head _))))
  · exact g7_06 hE hp _ (.tail _ (.tail _ (.tail _ (.tail _ (.head _)))))
  · exact g7_00 hE hp _ (.tail _ (.tail _ (.tail _ (.tail _ (.tail _ (.tail _ (.tail _ (.tail _ (.tail _ (.tail _ (.tail _ (.tail _ (.tail _ (.tail _ (.tail _ (.head _))))))))))))))))
  · exact g7_00 hE hp _ (.tail _ (.tail _ (.tail _ (.tail _ (.tail _ (.tail _ (.tail _ (.tail _ (.tail _ (.tail _ (.tail _ (.tail _ (.tail _ (.tail _ (.tail _ (.tail _ (.head _)))))))))))))))))
  · exact g7_03b hE hp _ (.tail _ (.tail _ (.tail _ (.tail _ (.tail _ (.tail _ (.tail _ (.tail _ (.tail _ (.tail _ (.tail _ (.tail _ (.head _)))))))))))))
  · exact g7_00 hE hp _ (.tail _ (.tail _ (.tail _ (.tail _ (.tail _ (.tail _ (.tail _ (.tail _ (.tail _ (.tail _ (.tail _ (.tail _ (.tail _ (.tail _ (.tail _ (.tail _ (.tail _ (.head _))))))))))))))))))
  · exact g7_03b hE hp _ (.tail _ (.tail _ (.tail _ (.tail _ (.tail _ (.tail _ (.tail _ (.tail _ (.tail _ (.tail _ (.tail _ (.tail _ (.tail _ (.head _))))))))))))))
  · exact g7_03a hE hp _ (.tail _ (.tail _ (.tail _ (.tail _ (.tail _ (.tail _ (.head _)))))))
  · exact g7_00 hE hp _ (.tail _ (.tail _ (.tail _ (.tail _ (.tail _ (.tail _ (.tail _ (.tail _ (.tail _ (.tail _ (.tail _ (.tail _ (.tail _ (.tail _ (.tail _ (.tail _ (.tail _ (.tail _ (.head _)))))))))))))))))))
  · exact g7_03b hE hp _ (.tail _ (.tail _ (.tail _ (.tail _ (.tail _ (.tail _ (.tail _ (.tail _ (.tail _ (.tail _ (.tail _ (.tail _ (.tail _ (.tail _ (.head _)))))))))))))))
  · exact g7_00 hE hp _ (.tail _ (.tail _ (.tail _ (.tail _ (.tail _ (.tail _ (.tail _ (.tail _ (.tail _ (.tail _ (.tail _ (.tail _ (.tail _ (.tail _ (.tail _ (.tail _ (.tail _ (.tail _ (.tail _ (.head _))))))))))))))))))))
  · exact g7_03b hE hp _ (.tail _ (.tail _ (.tail _ (.tail _ (.tail _ (.tail _ (.tail _ (.tail _ (.tail _ (.tail _ (.tail _ (.tail _ (.tail _ (.tail _ (.tail _ (.head _))))))))))))))))
  · exact g7_03a hE hp _ (.tail _ (.tail _ (.tail _ (.tail _ (.tail _ (.tail _ (.tail _ (.head _))))))))
  · exact g7_1 hE hp _ (.head _)
  · exact g7_1 hE hp _ (.tail _ (.head _))
  · exact g7_2 hE hp _ (.head _)
  · exact g7_3t hE hp _ (.head _)
  · exact g7_3t hE hp _ (.tail _ (.head _))
  · exact g7_3t hE hp _ (.tail _ (.tail _ (.head _)))
  · exact g7_3t hE hp _ (.tail _ (.tail _ (.tail _ (.head _))))
  · exact g7_3t hE hp _ (.tail _ (.tail _ (.tail _ (.tail _ (.head _)))))
  · exact g7_3t hE hp _ (.tail _ (.tail _ (.tail _ (.tail _ (.tail _ (.head _))))))
  · exact g7_3dead hE hp _ (.head _)
  · exact g7_3dead hE hp _ (.tail _ (.head _))
  · exact g7_3dead hE hp _ (.tail _ (.tail _ (.head _)))
  · exact g7_3dead hE hp _ (.tail _ (.tail _ (.tail _ (.head _))))
  · exact g7_3dead hE hp _ (.tail _ (.tail _ (.tail _ (.tail _ (.head _)))))
  · exact g7_3dead hE hp _ (.tail _ (.tail _ (.tail _ (.tail _ (.tail _ (.head _))))))
  · exact g7_3dead hE hp _ (.tail _ (.tail _ (.tail _ (.tail _ (.tail _ (.tail _ (.head _)))))))
  · exact g7_3t hE hp _ (.tail _ (.tail _ (.tail _ (.tail _ (.tail _ (.tail _ (.head _)))))))
  · exact g7_3t hE hp _ (.tail _ (.tail _ (.tail _ (.tail _ (.tail _ (.tail _ (.tail _ (.head _))))))))
  · exact g7_3t hE hp _ (.tail _ (.tail _ (.tail _ (.tail _ (.tail _ (.tail _ (.tail _ (.tail _ (.head _)))))))))
  · exact g7_3t hE hp _ (.tail _ (.tail _ (.tail _ (.tail _ (.tail _ (.tail _ (.tail _ (.tail _ (.tail _ (.head _))))))))))
  · exact g7_3t hE hp _ (.tail _ (.tail _ (.tail _ (.tail _ (.tail _ (.tail _ (.tail _ (.tail _ (.tail _ (.tail _ (.head _)))))))))))
  · exact g7_3t hE hp _ (.tail _ (.tail _ (.tail _ (.tail _ (.tail _ (.tail _ (.tail _ (.tail _ (.tail _ (.tail _ (.tail _ (.head _))))))))))))
  · exact g7_3f hE hp _ (.head _)
  · exact g7_4 hE hp _ (.head _)
  · exact g7_4 hE hp _ (.tail _ (.head _))
  · exact g7_4dead hE hp _ (.head _)
  · exact g7_4dead hE hp _ (.tail _ (.head _))
  · exact g7_4dead hE hp _ (.tail _ (.tail _ (.head _)))
  · exact g7_4dead hE hp _ (.tail _ (.tail _ (.tail _ (.head _))))
  · exact g7_4dead hE hp _ (.tail _ (.tail _ (.tail _ (.tail _ (.head _)))))
  · exact g7_4dead hE hp _ (.tail _ (.tail _ (.tail _ (.tail _ (.tail _ (.head _))))))
  · exact g7_4dead hE hp _ (.tail _ (.tail _ (.tail _ (.tail _ (.tail _ (.tail _ (.head _)))))))
  · exact g7_4 hE hp _ (.tail _ (.tail _ (.head _)))
  · exact g7_4 hE hp _ (.tail _ (.tail _ (.tail _ (.head _))))
  · exact g7_5 hE hp _ (.head _)
  · exact g7_6 hE hp _ (.head _)
  · exact g7_7 hE hp _ (.head _)
  · exact g7_7exf hE hp _ (.head _)
  · exact g7_8 hE hp _ (.head _)
  · exact g7_9 hE hp _ (.head _)
  · exact g7_9 hE hp _ (.tail _ (.head _))
  · exact g7_9 hE hp _ (.tail _ (.tail _ (.head _)))
  · exact g7_10 hE hp _ (.head _)
  · exact g7_10 hE hp _ (.tail _ (.head _))
  · exact g7_10 hE hp _ (.tail _ (.tail _ (.head _)))
  · exact g7_11 hE hp _ (.head _)
  · exact g7_11exf hE hp _ (.head _)
end Go.Proofs.YtpjifimjoinnnaaDoor
