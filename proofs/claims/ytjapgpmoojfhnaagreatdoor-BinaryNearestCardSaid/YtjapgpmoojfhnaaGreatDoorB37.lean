/- Decimals as lists of digits, compared: their values (after the texts for the statements on decimals). The contracts of magnitudes, compare and Cmp of decimals. -/
import Derived.Test.YtjapgpmoojfhnaaGreatDoorB04
import Derived.Test.YtjapgpmoojfhnaaGreatDoorB22
set_option maxHeartbeats 16000000
set_option maxRecDepth 100000
set_option linter.unusedSimpArgs false
set_option linter.unusedVariables false

